/- Simplify at x{n,}, n from 2 on. Simplify at x{0,m}. Simplify at x{n} and x{n,m}, n from 1 on. -/
import Derived.Test.YtholpemmakdglaaAFFnSySimplifyTwice
namespace Go.Proofs.Ytholpemmakdglaa.PFnSySimplifyTwice
open Go.RowKit Go.Proofs.YtholpemmakdglaaW.PrintWords Go.Proofs.YtholpemmakdglaaW.PrintLast Go.Proofs.YtholpemmakdglaaW.PrintMore
set_option linter.unusedVariables false
set_option linter.unusedSimpArgs false
abbrev pt (s : Nat) : Value := .pointer (some ⟨s, 0, none⟩)
/-- A node that is being made of copies, block q, which was the next one at w1. -/
def CatS (w1 : World) (q : Nat) (us : List Value) (v : Value) (wx : World) : Prop :=
  q = w1.heap.size ∧ Below q w1 wx ∧ q < wx.heap.size ∧ ∃ u, isPtr u ∧ wx.heap[q]? = some (.cells (ndC 18 0 v u (.slice none 0 0) 0 0 0 ⟨#[]⟩) 69 (0, 0)) ∧ Lies wx q q u v us
theorem CatS.put {w1 w' : World} {q : Nat} {us : List Value} {v v' u u' : Value} (hq : q = w1.heap.size) (hb : Below q w1 w') (hu : isPtr u')
    (hk : w'.heap[q]? = some (.cells ((ndC 18 0 v u (.slice none 0 0) 0 0 0 ⟨#[]⟩).setIfInBounds 3 u') 69 (0, 0))) (hL : Lies w' q q u' v' us) : CatS w1 q us v' (w'.setCell ⟨q, 2, none⟩ v') :=
  ⟨hq, hb.setCell (Nat.le_refl _) _, by have := lt_of_block hk; simpa [World.setCell] using this, u', hu, blk_put hk 2 v' rfl, hL.move fun k _ hne => far1 w' hne 2 v'⟩
theorem CatS.start (w1 : World) : CatS w1 w1.heap.size [] (.slice (some ⟨w1.heap.size, 3, none⟩) 0 1) (w1.alloc (.cells (ndC 18 0 (.slice (some ⟨w1.heap.size, 3, none⟩) 0 1) (.pointer none) (.slice none 0 0) 0 0 0 ⟨#[]⟩) 69)) :=
  ⟨rfl, (Below.refl _ _).alloc (Nat.le_refl _) _, by simp, .pointer none, ⟨_, rfl⟩, Mem.blk_new _ _, .inl ⟨rfl, .inl rfl⟩⟩
theorem ptrs_rep (i s : Nat) : ptrs (List.replicate (i + 1) s) = ptrs (List.replicate i s) ++ [pt s] := by
  rw [List.replicate_succ', ptrs, List.map_append]; rfl
theorem one_at {w : World} {s : Nat} : ∀ (j : Nat) (x : Value), [pt s][j]? = some x → (w.alloc (.cells #[pt s] 46)).cell? ((⟨w.heap.size, 0, none⟩ : Addr).add j) = some x := by
  intro j x hj
  cases j with
  | zero => simp at hj; subst hj; rw [Addr.add_lit]; simp
  | succ j => simp at hj
/-- .. and done. -/
theorem CatS.done {w1 wx : World} {q : Nat} {bs : List Nat} {v : Value} {ts : List Tr} {ok : Nat → Prop} (h : CatS w1 q (ptrs bs) v wx) (hL : RsL wx (fun k => ok k ∨ w1.heap.size ≤ k) bs ts) (hf : fnL ts) (hl : ts.length ≤ 1000000) :
    SimP w1 ok (catT (nmL ts)) (.returned (pt q)) wx := by
  obtain ⟨rfl, hb, hlt, u, ⟨p3, rfl⟩, hk, hLi⟩ := h
  refine ⟨w1.heap.size, ⟨18, 0, [], 0, 0, 0, ⟨#[]⟩, ts⟩, rfl, hb, ?_, ?_, ?_⟩
  · rw [RsT]
    exact ⟨.inr (Nat.le_refl _), _, _, _, bs, hk, ⟨none, 0, rfl, by simp, by simp, fun h => by simp at h⟩, hLi.crow hk rfl (fun k hk' => .inr (hLi.base (Nat.le_refl _) hk')), hL⟩
  · rw [fnT]
    exact ⟨by omega, by simp [Room], by unfold Room; omega, hf⟩
  · rw [nmT, nmN, catT]
    simp
theorem RsL.rep {w : World} {ok : Nat → Prop} {s : Nat} {x : Tr} (h : RsT w ok s x) : ∀ n, RsL w ok (List.replicate n s) (List.replicate n x)
  | 0 => by rw [List.replicate_zero, List.replicate_zero, RsL]
  | n + 1 => by rw [List.replicate_succ, List.replicate_succ, RsL]; exact ⟨s, _, rfl, h, RsL.rep h n⟩
theorem nmL_app : ∀ ts us : List Tr, nmL (ts ++ us) = nmL ts ++ nmL us
  | [], us => by rw [List.nil_append, nmL, List.nil_append]
  | t :: ts, us => by rw [List.cons_append, nmL, nmL, nmL_app ts us, List.cons_append]
theorem nmL_rep (t : Tr) : ∀ n, nmL (List.replicate n t) = List.replicate n (nmT t)
  | 0 => by rw [List.replicate_zero, nmL, List.replicate_zero]
  | n + 1 => by rw [List.replicate_succ, nmL, nmL_rep t n, List.replicate_succ]
theorem fnL_app : ∀ {ts us : List Tr}, fnL ts → fnL us → fnL (ts ++ us)
  | [], us, _, h => h
  | t :: ts, us, h1, h => by
    rw [fnL] at h1
    rw [List.cons_append, fnL]
    exact ⟨h1.1, fnL_app h1.2 h⟩
theorem fnL_rep {t : Tr} (h : fnT t) : ∀ n, fnL (List.replicate n t)
  | 0 => by rw [List.replicate_zero, fnL]; trivial
  | n + 1 => by rw [List.replicate_succ, fnL]; exact ⟨h, fnL_rep h n⟩
theorem fnL_one {t : Tr} (h : fnT t) : fnL [t] := by rw [fnL, fnL]; exact ⟨h, trivial⟩
/-- The last part of a node of copies: another tree, made when the node was at work. -/
theorem CatS.last {w1 wr w3 wf : World} {q i s b3 : Nat} {x1 t3 : Tr} {v v' u : Value} {us : List Value} {ok : Nat → Prop} (hq : w1.heap.size = q) (hbr : Below q w1 wr) (hqr : q < wr.heap.size) (hL : Lies wr q q u v us) (hx : RsT w1 ok s x1) (hfx : fnT x1)
    (hb3 : Below wr.heap.size wr w3) (h3 : RsT w3 (fun k => (ok k ∧ k < q) ∨ wr.heap.size ≤ k) b3 t3) (hf3 : fnT t3) (hi : i ≤ 1000)
    (hk : ∀ k, k < w3.heap.size → k ≠ q → some k ≠ v.ownBlock → wf.heap[k]? = w3.heap[k]?) (hC : CatS w1 q (ptrs (List.replicate i s) ++ [pt b3]) v' wf) :
    SimP w1 ok (catT (List.replicate i (nmT x1) ++ [nmT t3])) (.returned (pt q)) wf := by
  have e : ptrs (List.replicate i s) ++ [pt b3] = ptrs (List.replicate i s ++ [b3]) := by rw [ptrs, ptrs, List.map_append]; rfl
  rw [e] at hC
  have hD := CatS.done (ok := ok) (ts := List.replicate i x1 ++ [t3]) hC (rsL_snoc (rsT_move (fun k hk' hlt => ⟨hk k hlt ?_ ?_, ?_⟩) t3 b3 h3) _ _ (RsL.rep (rsT_move (fun k hk' hlt => ⟨hC.2.1.block k (by omega), .inl hk'⟩) x1 s hx) i)) (fnL_app (fnL_rep hfx _) (fnL_one hf3)) (by simp; omega)
  · rw [nmL_app, nmL_rep, nmL, nmL] at hD
    exact hD
  · rcases hk' with h | h <;> omega
  · intro e
    rcases hk' with h | h
    · have := hL.base (Nat.le_refl _) e.symm; omega
    · have := hL.lt hqr e.symm; omega
  · rcases hk' with h | h
    · exact .inl h.1
    · exact .inr (by omega)
set_option maxRecDepth 100000 in
set_option maxHeartbeats 4000000 in
theorem simp_plus (N : Nat) (IH : Hid (SimI N)) (fl : Int) (rs : List Int) (m0 cp : Int) (nm : ByteArray) (x : Tr) (b : Nat) (ok : Nat → Prop) (w : World) (hN : ncT x ≤ N) (hm : 2 ≤ m0) (hm2 : m0 ≤ 1000)
    (hr : RsT w ok b ⟨17, fl, rs, m0, -1, cp, nm, [x]⟩) (hf : fnT ⟨17, fl, rs, m0, -1, cp, nm, [x]⟩) (hs : snT x) :
    Calls Try.prog 32 #[.pointer (some ⟨b, 0, none⟩)] w (SimP w ok (simT ⟨17, fl, rs, m0, -1, cp, nm, [x]⟩)) := by
  obtain ⟨c, g, o, cS, c0, c1, c2, c7, c8, c3, CI, hf0, hf1⟩ := rep_open IH hN hr hf hs
  rw [sim_rep]
  have he : repF fl m0 (-1) (simT x) = catT (List.replicate (m0 - 1).toNat (simT x) ++ [s1 15 fl (simT x)]) := by
    unfold repF
    rw [if_neg (by omega), if_pos rfl, if_neg (by omega), if_neg (by omega)]
  rw [he]
  have t0 : (m0 == 0) = false := by simpa using (show ¬ m0 = 0 by omega)
  have t1 : (m0 == 1) = false := by simpa using (show ¬ m0 = 1 by omega)
  clear hr hf hs IH he
  go_enter Try.func32, Try.ntmps32
  go_upto_region 35 with (go_at_call 32; refine CI.out.mono ?_; rintro e w1 ⟨s, x1, rfl, hb1, hx1, hfx1, hnm1⟩; have d1 := Gb.cellB hb1 c1; have d7 := Gb.cellB hb1 c7; have d8 := Gb.cellB hb1 c8; clear c0 c1 c2 c3 c7 c8)
  have HB1 := Lib.hid hb1
  have HX := Lib.hid hx1
  have HFX := Lib.hid hfx1
  have HNM := Lib.hid hnm1
  have hbl := Gb.lt d1
  clear hb1 hx1 hfx1 hnm1 CI
  go_wp2_with fail
  have CS0 := Lib.hid (CatS.start w1)
  generalize hq : w1.heap.size = q at *
  generalize w1.alloc (.cells #[.int .u8 18, .int .u16 0, .slice (some ⟨q, 3, none⟩) 0 1, .pointer none, .slice none 0 0, .int .i32 0, .int .i32 0, .int .i64 0, .int .i64 0, .int .i64 0, .string ⟨#[]⟩] 69) = W2 at *
  go_loopg [10] 2000 (fun g s10 wx => ∃ (i : Nat) (v : Value), s10 = .int .i64 i ∧ (i : Int) ≤ m0 - 1 ∧ CatS w1 q (ptrs (List.replicate i s)) v wx ∧ 1000 - i < g)
  case atStart => exact ⟨0, _, rfl, by omega, CS0.out, by omega⟩
  case round =>
    obtain ⟨i, v, rfl, hi, hcs, hg⟩ := hrel
    obtain ⟨g', rfl⟩ : ∃ g', gk = g' + 1 := ⟨gk - 1, by omega⟩
    have HCS := Lib.hid hcs
    obtain ⟨hq', hbq, hlt, u, hu, hk, hLi⟩ := hcs
    obtain ⟨Av, cv, hv⟩ := hLi.form
    have hlen : (ptrs (List.replicate i s)).length = i := by simp
    rw [hlen] at hv
    subst hv
    have HLN := Lib.hid hlen
    clear hlen
    have y1 : wr.cell? ⟨b, 1, none⟩ = some (.int .u16 fl) := (hbq.cell (p := ⟨b, 1, none⟩) (by show b < q; omega)).trans d1
    have y7 : wr.cell? ⟨b, 7, none⟩ = some (.int .i64 m0) := (hbq.cell (p := ⟨b, 7, none⟩) (by show b < q; omega)).trans d7
    have z2 : wr.cell? ⟨q, 2, none⟩ = some (.slice Av i cv) := (blk_cell hk 2).trans rfl
    have HQ := Lib.hid hbq; have HK := Lib.hid hk; have HLI := Lib.hid hLi; have HU := Lib.hid hu
    clear hq' hbq hk hLi hu CS0 d7 d8 t0 t1
    by_cases hlt2 : (i : Int) < m0 - 1
    · go_wp2_with (at_builtin; refine wp_grow rfl (.tmp 179) (.tmp 181) rfl (T := q) (b := q) (m := 1) (news := [pt s]) (HLI.out.move (w1 := wr.alloc (.cells #[pt s] 46)) fun k hk _ => Below.heap_alloc _ _ _ (HLI.out.lt hlt hk)) (Nat.le_refl _) (Mem.blk_old HK.out _) rfl HU.out rfl ⟨wr.heap.size, 0, none⟩ rfl rfl one_at (by simp [isPtr]) (by omega) (by rw [HLN.out]; omega) ?_; intro v' w' u' hk' hu' hL' hs' ho' hB' hor; obtain ⟨A', c', hv'⟩ := hL'.form; rw [List.length_append, HLN.out] at hv'; subst hv'; have z2' : w'.cell? ⟨q, 2, none⟩ = some (.slice Av i cv) := (blk_cell hk' 2).trans rfl; have fz := blk_frozen hk' 2; have HC := Lib.hid (CatS.put hq.symm (hB' w1 (HQ.out.alloc (by omega) _)) hu' hk' hL'); clear hk' hu' hL' hs' ho' hB' hor)
      go_roundg g'
      case rel => exact ⟨i + 1, _, by go_num, by omega, by rw [ptrs_rep]; exact HC.out, by omega⟩
      case measure => omega
    · have hie : (i : Int) = m0 - 1 := by omega
      have HIE := Lib.hid hie
      clear hie
      go_upto_region 41 with fail
      refine Mem.wp_region_midk 10 3 (fun w' => w'.cell? ⟨q, 2, none⟩ = some (.slice Av i cv) ∧ w'.cell? ⟨b, 1, none⟩ = some (.int .u16 fl)) (by kernel_rfl) (by kernel_rfl) ⟨z2, y1⟩ ?_
      simp only [List.take_succ_cons, List.take_zero, List.drop_succ_cons, List.drop_zero]
      iterate 10
        refine Mem.wpHeld_step (v := ?_) (by rfl) ?_ ?_
        rotate_left
        · intro w hSw; (try dsimp only at hSw); go_simp; try with_reducible rfl
        try simp only [Act.put, List.setIfInBounds_toArray, List.set_cons_zero, List.set_cons_succ]
      refine Mem.wpHeld_nil ?_
      simp only [Mem.midK]
      have BD : Below wr.heap.size wr { wr with drawn := wr.drawn + 1 } := (Below.refl _ _).drew
      have HBD := Lib.hid BD
      have C1 := Lib.hid (simplify1_nil 15 fl s x1 (fun k => (ok k ∨ w.heap.size ≤ k) ∧ k < q) { wr with drawn := wr.drawn + 1 } (by omega) hf0 hf1 (rsT_move (fun k hk hlt => ⟨(BD.block k (by omega)).trans (HQ.out.block k (by omega)), hk, by omega⟩) x1 s HX.out) HFX.out)
      clear BD
      refine wpOp_step rfl ?_
      intro K' hK
      go_simp
      go_wp2_with (go_at_call 43; refine C1.out.mono ?_; rintro e w3 ⟨b3, t3, rfl, hb3, ht3, hf3, hn3⟩)
      have hb3' := HBD.out.trans hb3
      refine ⟨⟨Gb.cellB hb3' z2, Gb.cellB hb3' y1⟩, ?_⟩
      have hk3 := (hb3'.block q hlt).trans HK.out
      have hL3 := HLI.out.move (w1 := w3.alloc (.cells #[pt b3] 46)) fun k hk _ => (Below.heap_alloc _ _ _ (Nat.lt_of_lt_of_le (HLI.out.lt hlt hk) hb3'.size)).trans (hb3'.block k (HLI.out.lt hlt hk))
      have hs3 := hb3'.size
      refine wpOp_step rfl ?_
      intro K' hK
      go_simp
      refine hK _ _ ⟨⟨Gb.cellB (hb3'.alloc hb3'.size _) z2, Gb.cellB (hb3'.alloc hb3'.size _) y1⟩, ?_⟩
      clear hK K'
      refine wpOp_step rfl ?_
      intro K' hK
      rw [if_pos (by rfl)]
      refine wp_grow_op (.tmp 189) (.tmp 196) rfl (T := q) (b := q) (m := 1) (news := [pt b3]) hL3 (Nat.le_refl _) (Mem.blk_old hk3 _) rfl HU.out rfl ⟨w3.heap.size, 0, none⟩ rfl rfl one_at (by simp [isPtr]) (by omega) (by rw [HLN.out]; omega) ?_
      intro v' w' u' hk' hu' hL' hs' ho' hB' hor
      obtain ⟨A', c', hv'⟩ := hL'.form
      rw [List.length_append, HLN.out] at hv'
      subst hv'
      have z2' : w'.cell? ⟨q, 2, none⟩ = some (.slice Av i cv) := (blk_cell hk' 2).trans rfl
      have fz := blk_frozen hk' 2
      have hbn : q ≠ b := by omega
      have y1' : w'.cell? ⟨b, 1, none⟩ = some (.int .u16 fl) := ((hB' w1 ((HQ.out.trans (hb3'.mono (by omega))).alloc (by omega) _)).cell (p := ⟨b, 1, none⟩) (by show b < q; omega)).trans d1
      have hC := CatS.put hq.symm (hB' w1 ((HQ.out.trans (hb3'.mono (by omega))).alloc (by omega) _)) hu' hk' hL'
      have hE := CatS.last hq HQ.out hlt HLI.out HX.out HFX.out hb3' (rsT_move (fun k hk _ => ⟨rfl, hk.imp (fun h => h) (fun h => h)⟩) t3 b3 ht3) hf3 (i := i) (by omega) (fun k hk hne hn => (far1 w' hne 2 _).trans ((ho' k (by simp; omega) hne hn).trans (Below.heap_alloc _ _ _ hk))) hC
      rw [HNM.out, hn3, HNM.out] at hE
      have HE := Lib.hid (SimP.widen hE HB1.out (fun k hk => hk))
      refine hK _ _ ⟨⟨z2', y1'⟩, ?_⟩
      clear hK K' hC hE hk' hu' hL' hs' ho' hB' hor hk3 hL3 hs3 hb3 hb3' ht3 hf3 hn3 y1 y1' z2
      go_wp2_with fail
      refine NoPanic.normal ?_
      go_wp2
      go_ret
      rw [show (m0 - 1).toNat = i by have := HIE.out; omega]
      exact HE.out
end Go.Proofs.Ytholpemmakdglaa.PFnSySimplifyTwice
namespace Go.Proofs.Ytholpemmakdglaa.PFnSySimplifyTwice
open Go.RowKit Go.Proofs.YtholpemmakdglaaW.PrintWords Go.Proofs.YtholpemmakdglaaW.PrintLast Go.Proofs.YtholpemmakdglaaW.PrintMore
set_option linter.unusedVariables false
set_option linter.unusedSimpArgs false
/-- A suffix at work: the tree of j + 1 copies, each of which may be left out. -/
def SfxS (W0 : World) (okS : Nat → Prop) (fl : Int) (x : Tr) (j b3 : Nat) (wx : World) : Prop :=
  Below W0.heap.size W0 wx ∧ ∃ t3, RsT wx (fun k => okS k ∨ W0.heap.size ≤ k) b3 t3 ∧ fnT t3 ∧ nmT t3 = sfx fl x j
theorem SimP.at {w w' : World} {ok : Nat → Prop} {r : Tr} {q : Nat} (h : SimP w ok r (.returned (pt q)) w') : Below w.heap.size w w' ∧ ∃ t, RsT w' (fun k => ok k ∨ w.heap.size ≤ k) q t ∧ fnT t ∧ nmT t = r := by
  obtain ⟨b, t, he, h1, h2, h3, h4⟩ := h
  injection he with he
  injection he with he
  injection he with he
  injection he with he _ _
  subst he
  exact ⟨h1, t, h2, h3, h4⟩
theorem SfxS.of {W0 wx : World} {okS : Nat → Prop} {fl : Int} {x : Tr} {j b3 : Nat} (h : SimP W0 okS (sfx fl x j) (.returned (pt b3)) wx) : SfxS W0 okS fl x j b3 wx := by
  obtain ⟨b, t, he, h1, h2, h3, h4⟩ := h
  injection he with he
  injection he with he
  injection he with he
  injection he with he _ _
  subst he
  exact ⟨h1, t, h2, h3, h4⟩
theorem two_at {w : World} {s b : Nat} : ∀ (j : Nat) (x : Value), [pt s, pt b][j]? = some x → (w.alloc (.cells #[pt s, pt b] 46)).cell? ((⟨w.heap.size, 0, none⟩ : Addr).add j) = some x := by
  intro j x hj
  match j with
  | 0 => simp at hj; subst hj; rw [Addr.add_lit]; simp
  | 1 => simp at hj; subst hj; rw [Addr.add_lit]; simp
  | j + 2 => simp at hj
/-- One more copy: the node of the copy and the suffix, ahead of its loop. -/
theorem SfxS.cat {W0 wr wf : World} {okS : Nat → Prop} {fl : Int} {x x1 : Tr} {j s b3 q : Nat} {v : Value} (h : SfxS W0 okS fl x j b3 wr) (hx : RsT W0 okS s x1) (hfx : fnT x1) (hn : nmT x1 = x) (hC : CatS wr q (ptrs [s, b3]) v wf) :
    SimP wr (fun k => okS k ∨ W0.heap.size ≤ k) (catT [x, sfx fl x j]) (.returned (pt q)) wf := by
  obtain ⟨hb, t3, h3, hf3, hn3⟩ := h
  have hq := hC.1
  have hbf := hC.2.1
  subst hq
  have hD := CatS.done (ok := fun k => okS k ∨ W0.heap.size ≤ k) (ts := [x1, t3]) hC (by
    rw [RsL]
    refine ⟨s, [b3], rfl, rsT_move (fun k hk hlt => ⟨(hbf.block k (Nat.lt_of_lt_of_le hlt hb.size)).trans (hb.block k hlt), .inl (.inl hk)⟩) x1 s hx, RsL.one (rsT_move (fun k hk hlt => ⟨hbf.block k hlt, .inl hk⟩) t3 b3 h3)⟩) (by rw [fnL]; exact ⟨hfx, fnL_one hf3⟩) (by simp)
  rw [nmL, nmL, nmL, hn, hn3] at hD
  exact hD
theorem SfxS.step {W0 wr wf w4 : World} {okS : Nat → Prop} {fl : Int} {x : Tr} {j b4 : Nat} (hb : Below W0.heap.size W0 wr) (hbf : Below wr.heap.size wr wf) (h : SimP wf (fun k => (okS k ∨ W0.heap.size ≤ k) ∨ wr.heap.size ≤ k) (sfx fl x (j + 1)) (.returned (pt b4)) w4) : SfxS W0 okS fl x (j + 1) b4 w4 :=
  SfxS.of (SimP.widen h (hb.trans (hbf.mono hb.size)) (fun k hk => by
    have := hb.size
    rcases hk with (h | h) | h
    · exact .inl h
    · exact .inr h
    · exact .inr (by omega)))
set_option maxRecDepth 100000 in
set_option maxHeartbeats 4000000 in
theorem simp_opts (N : Nat) (IH : Hid (SimI N)) (fl : Int) (rs : List Int) (m1 cp : Int) (nm : ByteArray) (x : Tr) (b : Nat) (ok : Nat → Prop) (w : World) (hN : ncT x ≤ N) (hm : 1 ≤ m1) (hm2 : m1 ≤ 1000)
    (hr : RsT w ok b ⟨17, fl, rs, 0, m1, cp, nm, [x]⟩) (hf : fnT ⟨17, fl, rs, 0, m1, cp, nm, [x]⟩) (hs : snT x) :
    Calls Try.prog 32 #[.pointer (some ⟨b, 0, none⟩)] w (SimP w ok (simT ⟨17, fl, rs, 0, m1, cp, nm, [x]⟩)) := by
  obtain ⟨c, g, o, cS, c0, c1, c2, c7, c8, c3, CI, hf0, hf1⟩ := rep_open IH hN hr hf hs
  rw [sim_rep]
  have he : repF fl 0 m1 (simT x) = sfx fl (simT x) (m1 - 1).toNat := by
    unfold repF
    rw [if_neg (by omega), if_neg (by omega), if_neg (by omega), if_pos (by omega), if_neg (by omega)]
    congr 2
    omega
  rw [he]
  have t0 : (m1 == 0) = false := by simpa using (show ¬ m1 = 0 by omega)
  have t1 : (m1 == -1) = false := by simpa using (show ¬ m1 = -1 by omega)
  clear hr hf hs IH he
  go_enter Try.func32, Try.ntmps32
  go_upto_region 53 with (go_at_call 32; refine CI.out.mono ?_; rintro e w1 ⟨s, x1, rfl, hb1, hx1, hfx1, hnm1⟩; have d1 := Gb.cellB hb1 c1; have d7 := Gb.cellB hb1 c7; have d8 := Gb.cellB hb1 c8; clear c0 c1 c2 c3 c7 c8)
  have HB1 := Lib.hid hb1
  have HX := Lib.hid hx1
  have HFX := Lib.hid hfx1
  have HNM := Lib.hid hnm1
  have hbl := Gb.lt d1
  clear hb1 hx1 hfx1 hnm1 CI t0 t1
  have tgt : decide ((0 : Int) < m1) = true := by simpa using (show 0 < m1 by omega)
  go_quiet (fail)
  have B0 : Below w1.heap.size w1 (w1.drewN nq) := Gb.dn (Below.refl _ _) nq
  replace d1 := Gb.cellB B0 d1
  replace d7 := Gb.cellB B0 d7
  replace d8 := Gb.cellB B0 d8
  have HX0 := Lib.hid (rsT_move (ok' := fun k => ok k ∨ w.heap.size ≤ k) (fun k hk hlt => ⟨B0.block k hlt, hk⟩) x1 s HX.out)
  have HW0 := Lib.hid (HB1.out.trans (B0.mono HB1.out.size))
  clear B0 HX HB1 hbl
  generalize w1.drewN nq = W0 at *
  obtain ⟨okS, hok⟩ : ∃ okS : Nat → Prop, okS = fun k => ok k ∨ w.heap.size ≤ k := ⟨_, rfl⟩
  rw [← hok] at HX0
  have HOK := Lib.hid hok
  clear hok
  have C1 := Lib.hid (simplify1_nil 16 fl s x1 okS W0 (by omega) hf0 hf1 HX0.out HFX.out)
  rw [HNM.out] at C1
  go_upto_region 55 with (go_at_call 43; refine C1.out.mono ?_; rintro e w3 ⟨b3, t3, rfl, hb3, ht3, hf3, hn3⟩)
  have HS0 : Hid (SfxS W0 okS fl (simT x) 0 b3 w3) := Lib.hid (SfxS.of ⟨b3, t3, rfl, hb3, ht3, hf3, by rw [sfx]; exact hn3⟩)
  have e1 := Gb.cellB hb3 d1
  have e7 := Gb.cellB hb3 d7
  have e8 := Gb.cellB hb3 d8
  clear hb3 ht3 hf3 hn3 C1
  go_wp2_with fail
  go_loopg [13, 14] 2000 (fun g s13 s14 wx => ∃ (j b3 : Nat), s13 = pt b3 ∧ s14 = .int .i64 (0 + 1 + (j : Int)) ∧ (j : Int) ≤ m1 - 0 - 1 ∧ SfxS W0 okS fl (simT x) j b3 wx ∧ 1000 - j < g)
  case atStart => exact ⟨0, b3, rfl, by first | rfl | simp, by omega, HS0.out, by omega⟩
  case round =>
    obtain ⟨j, b3, rfl, rfl, hj, hsx, hg⟩ := hrel
    obtain ⟨g', rfl⟩ : ∃ g', gk = g' + 1 := ⟨gk - 1, by omega⟩
    have HSX := Lib.hid hsx
    have hb0 := hsx.1
    have y1 : wr.cell? ⟨b, 1, none⟩ = some (.int .u16 fl) := Gb.cellB hb0 d1
    have y7 : wr.cell? ⟨b, 7, none⟩ = some (.int .i64 0) := Gb.cellB hb0 d7
    have y8 : wr.cell? ⟨b, 8, none⟩ = some (.int .i64 m1) := Gb.cellB hb0 d8
    have hbr := Gb.lt y1
    have HB0 := Lib.hid hb0
    clear hsx hb0 HS0 d1 d7 d8
    by_cases hlt : (j : Int) < m1 - 0 - 1
    · have tl : decide (1 + (j : Int) < m1) = true := by simpa using (show 1 + (j : Int) < m1 by omega)
      have K2 := Lib.hid (Mem.blk_new wr (.cells #[.int .u8 18, .int .u16 0, .slice none 0 0, .pointer none, .slice none 0 0, .int .i32 0, .int .i32 0, .int .i64 0, .int .i64 0, .int .i64 0, .string ⟨#[]⟩] 69))
      have BW2 : Hid (Below wr.heap.size wr (wr.alloc (.cells #[.int .u8 18, .int .u16 0, .slice none 0 0, .pointer none, .slice none 0 0, .int .i32 0, .int .i32 0, .int .i64 0, .int .i64 0, .int .i64 0, .string ⟨#[]⟩] 69))) := Lib.hid ((Below.refl _ _).alloc (Nat.le_refl _) _)
      have hl2 : wr.heap.size < (wr.alloc (.cells #[.int .u8 18, .int .u16 0, .slice none 0 0, .pointer none, .slice none 0 0, .int .i32 0, .int .i32 0, .int .i64 0, .int .i64 0, .int .i64 0, .string ⟨#[]⟩] 69)).heap.size := by simp
      go_upto_region 59 with fail
      generalize hq : wr.heap.size = q at *
      generalize wr.alloc (.cells #[.int .u8 18, .int .u16 0, .slice none 0 0, .pointer none, .slice none 0 0, .int .i32 0, .int .i32 0, .int .i64 0, .int .i64 0, .int .i64 0, .string ⟨#[]⟩] 69) = W2 at *
      have x1c : W2.cell? ⟨b, 1, none⟩ = some (.int .u16 fl) := (BW2.out.cell (p := ⟨b, 1, none⟩) hbr).trans y1
      have x7c : W2.cell? ⟨b, 7, none⟩ = some (.int .i64 0) := (BW2.out.cell (p := ⟨b, 7, none⟩) hbr).trans y7
      have x8c : W2.cell? ⟨b, 8, none⟩ = some (.int .i64 m1) := (BW2.out.cell (p := ⟨b, 8, none⟩) hbr).trans y8
      have Y1 := Lib.hid y1
      clear y1 y7 y8
      go_upto_region 60 with (at_builtin; refine wp_grow rfl (.tmp 280) (.tmp 283) rfl (T := q) (b := q) (m := 2) (us := []) (news := [pt s, pt b3]) (u := .pointer none) (.inl ⟨rfl, .inl rfl⟩) (Nat.le_refl _) (Mem.blk_old K2.out _) rfl ⟨_, rfl⟩ rfl ⟨W2.heap.size, 0, none⟩ rfl rfl two_at (by simp [isPtr]) (by omega) (by simp) ?_; intro v' w' u' hk' hu' hL' hs' ho' hB' hor; obtain ⟨A', c', rfl⟩ := hL'.form; have z2' : w'.cell? ⟨q, 2, none⟩ = some (.slice none 0 0) := (blk_cell hk' 2).trans rfl; have fz := blk_frozen hk' 2; have HC : Hid (CatS wr q (ptrs [s, b3]) (.slice A' 2 c') (w'.setCell ⟨q, 2, none⟩ (.slice A' 2 c'))) := Lib.hid (CatS.put hq.symm (hB' wr (BW2.out.alloc (by omega) _)) hu' hk' hL'); clear hk' hu' hL' hs' ho' hB' hor)
      generalize w'.setCell ⟨q, 2, none⟩ (.slice A' 2 c') = W4 at *
      obtain ⟨hbq, t4, h4, hf4, hn4⟩ := (SfxS.cat HSX.out HX0.out HFX.out HNM.out HC.out).at
      have C4 := Lib.hid (simplify1_nil 16 fl q t4 _ W4 (by omega) hf0 hf1 h4 hf4)
      rw [hn4, ← sfx] at C4
      have HBQ := Lib.hid hbq
      have v1 : W4.cell? ⟨b, 1, none⟩ = some (.int .u16 fl) := (hbq.cell (p := ⟨b, 1, none⟩) (show b < wr.heap.size by omega)).trans Y1.out
      clear hbq h4 hf4 hn4 x1c x7c x8c z2' fz
      go_wp2_with (go_at_call 43; refine C4.out.mono ?_; rintro e w5 ⟨b5, t5, rfl, hb5, ht5, hf5, hn5⟩; have HS5 := Lib.hid (SfxS.step HB0.out HBQ.out ⟨b5, t5, rfl, hb5, ht5, hf5, hn5⟩); clear hb5 ht5 hf5 hn5)
      go_roundg g'
      case rel => exact ⟨j + 1, b5, rfl, by go_num, by omega, HS5.out, by omega⟩
      case measure => omega
    · have hje : (j : Int) = m1 - 0 - 1 := by omega
      have tl : decide (1 + (j : Int) < m1) = false := by simpa using (show m1 ≤ 1 + (j : Int) by omega)
      obtain ⟨_, t3, h3, hf3, hn3⟩ := HSX.out
      have HE : Hid (SimP w ok (sfx fl (simT x) (m1 - 1).toNat) (.returned (pt b3)) wr) := Lib.hid (SimP.widen (w1 := W0) ⟨b3, t3, rfl, HB0.out, h3, hf3, by rw [hn3, show (m1 - 1).toNat = j by omega]⟩ HW0.out (fun k hk => by rw [HOK.out] at hk; exact hk))
      clear h3 hf3 hn3 hje hlt
      go_wp2_with fail
      go_ret
      exact HE.out
end Go.Proofs.Ytholpemmakdglaa.PFnSySimplifyTwice
namespace Go.Proofs.Ytholpemmakdglaa.PFnSySimplifyTwice
open Go.RowKit Go.Proofs.YtholpemmakdglaaW.PrintWords Go.Proofs.YtholpemmakdglaaW.PrintLast Go.Proofs.YtholpemmakdglaaW.PrintMore
set_option linter.unusedVariables false
set_option linter.unusedSimpArgs false
set_option maxRecDepth 100000 in
set_option maxHeartbeats 4000000 in
theorem simp_copies (N : Nat) (IH : Hid (SimI N)) (fl : Int) (rs : List Int) (m0 cp : Int) (nm : ByteArray) (x : Tr) (b : Nat) (ok : Nat → Prop) (w : World) (hN : ncT x ≤ N) (hm : 2 ≤ m0) (hm2 : m0 ≤ 1000)
    (hr : RsT w ok b ⟨17, fl, rs, m0, m0, cp, nm, [x]⟩) (hf : fnT ⟨17, fl, rs, m0, m0, cp, nm, [x]⟩) (hs : snT x) :
    Calls Try.prog 32 #[.pointer (some ⟨b, 0, none⟩)] w (SimP w ok (simT ⟨17, fl, rs, m0, m0, cp, nm, [x]⟩)) := by
  obtain ⟨c, g, o, cS, c0, c1, c2, c7, c8, c3, CI, hf0, hf1⟩ := rep_open IH hN hr hf hs
  rw [sim_rep]
  have he : repF fl m0 m0 (simT x) = catT (List.replicate m0.toNat (simT x)) := by
    unfold repF
    rw [if_neg (by omega), if_neg (by omega), if_neg (by omega), if_neg (by omega), if_pos (by omega)]
  rw [he]
  have t0 : (m0 == 0) = false := by simpa using (show ¬ m0 = 0 by omega)
  have tm : (m0 == -1) = false := by simpa using (show ¬ m0 = -1 by omega)
  have tm1 : (m0 == 1) = false := by simpa using (show ¬ m0 = 1 by omega)
  have tp : decide (0 < m0) = true := by simpa using (show 0 < m0 by omega)
  clear hr hf hs IH he
  have t1c : (m0 == 1) = true ∨ (m0 == 1) = false := by cases (m0 == 1) <;> simp
  rcases t1c with t1 | t1
  all_goals
    go_enter Try.func32, Try.ntmps32
    go_upto_region 47 with (go_at_call 32; refine CI.out.mono ?_; rintro e w1 ⟨s, x1, rfl, hb1, hx1, hfx1, hnm1⟩; have d1 := Gb.cellB hb1 c1; have d7 := Gb.cellB hb1 c7; have d8 := Gb.cellB hb1 c8; clear c0 c1 c2 c3 c7 c8)
    have HB1 := Lib.hid hb1
    have HX := Lib.hid hx1
    have HFX := Lib.hid hfx1
    have HNM := Lib.hid hnm1
    have hbl := Gb.lt d1
    clear hb1 hx1 hfx1 hnm1 CI t0 tm tm1 tp t1
    go_wp2_with fail
    have CS0 := Lib.hid (CatS.start w1)
    generalize hq : w1.heap.size = q at *
    generalize w1.alloc (.cells #[.int .u8 18, .int .u16 0, .slice (some ⟨q, 3, none⟩) 0 1, .pointer none, .slice none 0 0, .int .i32 0, .int .i32 0, .int .i64 0, .int .i64 0, .int .i64 0, .string ⟨#[]⟩] 69) = W2 at *
    go_loopg [12] 2000 (fun g s12 wx => ∃ (i : Nat) (v : Value), s12 = .int .i64 i ∧ (i : Int) ≤ m0 ∧ CatS w1 q (ptrs (List.replicate i s)) v wx ∧ 1000 - i < g)
    case atStart => exact ⟨0, _, rfl, by omega, CS0.out, by omega⟩
    case round =>
      obtain ⟨i, v, rfl, hi, hcs, hg⟩ := hrel
      obtain ⟨g', rfl⟩ : ∃ g', gk = g' + 1 := ⟨gk - 1, by omega⟩
      have HCS := Lib.hid hcs
      obtain ⟨hq', hbq, hlt, u, hu, hk, hLi⟩ := hcs
      obtain ⟨Av, cv, hv⟩ := hLi.form
      have hlen : (ptrs (List.replicate i s)).length = i := by simp
      rw [hlen] at hv
      subst hv
      have HLN := Lib.hid hlen
      clear hlen
      have y1 : wr.cell? ⟨b, 1, none⟩ = some (.int .u16 fl) := (hbq.cell (p := ⟨b, 1, none⟩) (by show b < q; omega)).trans d1
      have y7 : wr.cell? ⟨b, 7, none⟩ = some (.int .i64 m0) := (hbq.cell (p := ⟨b, 7, none⟩) (by show b < q; omega)).trans d7
      have y8 : wr.cell? ⟨b, 8, none⟩ = some (.int .i64 m0) := (hbq.cell (p := ⟨b, 8, none⟩) (by show b < q; omega)).trans d8
      have z2 : wr.cell? ⟨q, 2, none⟩ = some (.slice Av i cv) := (blk_cell hk 2).trans rfl
      have HQ := Lib.hid hbq; have HK := Lib.hid hk; have HLI := Lib.hid hLi; have HU := Lib.hid hu
      clear hq' hbq hk hLi hu CS0 d1 d7 d8
      by_cases hlt2 : (i : Int) < m0
      · go_wp2_with (at_builtin; refine wp_grow rfl (.tmp 240) (.tmp 242) rfl (T := q) (b := q) (m := 1) (news := [pt s]) (HLI.out.move (w1 := wr.alloc (.cells #[pt s] 46)) fun k hk _ => Below.heap_alloc _ _ _ (HLI.out.lt hlt hk)) (Nat.le_refl _) (Mem.blk_old HK.out _) rfl HU.out rfl ⟨wr.heap.size, 0, none⟩ rfl rfl one_at (by simp [isPtr]) (by omega) (by rw [HLN.out]; omega) ?_; intro v' w' u' hk' hu' hL' hs' ho' hB' hor; obtain ⟨A', c', hv'⟩ := hL'.form; rw [List.length_append, HLN.out] at hv'; subst hv'; have z2' : w'.cell? ⟨q, 2, none⟩ = some (.slice Av i cv) := (blk_cell hk' 2).trans rfl; have fz := blk_frozen hk' 2; have HC := Lib.hid (CatS.put hq.symm (hB' w1 (HQ.out.alloc (by omega) _)) hu' hk' hL'); clear hk' hu' hL' hs' ho' hB' hor)
        go_roundg g'
        case rel => exact ⟨i + 1, _, by go_num, by omega, by rw [ptrs_rep]; exact HC.out, by omega⟩
        case measure => omega
      · have hie : (i : Int) = m0 := by omega
        have HIE := Lib.hid hie
        clear hie
        have tl : decide ((i : Int) < m0) = false := by simpa using (show m0 ≤ (i : Int) by omega)
        go_upto_region 53 with fail
        have tgt : decide (m0 < m0) = false := by simp
        clear tl
        go_quiet (fail)
        have B0 : Below wr.heap.size wr (wr.drewN nq) := Gb.dn (Below.refl _ _) nq
        have hD := CatS.done (ok := fun k => ok k ∨ w.heap.size ≤ k) (ts := List.replicate i x1) HCS.out (RsL.rep (rsT_move (fun k hk hlt => ⟨HQ.out.block k (by omega), .inl hk⟩) x1 s HX.out) i) (fnL_rep HFX.out _) (by simp; omega)
        rw [nmL_rep, HNM.out, show i = m0.toNat by have := HIE.out; omega] at hD
        have hE := SimP.widen (w := w) (ok := ok) hD HB1.out (fun k hk => hk)
        have HE : Hid (SimP w ok (catT (List.replicate m0.toNat (simT x))) (.returned (pt q)) (wr.drewN nq)) := Lib.hid (by
          obtain ⟨h1, t, h2, h3, h4⟩ := hE.at
          exact ⟨q, t, rfl, h1.trans (B0.mono h1.size), rsT_move (fun k hk hlt => ⟨B0.block k hlt, hk⟩) t q h2, h3, h4⟩)
        clear hD hE B0 z2 y1 y7 y8
        go_wp2_with fail
        go_ret
        exact HE.out
set_option maxRecDepth 100000 in
set_option maxHeartbeats 4000000 in
theorem simp_range (N : Nat) (IH : Hid (SimI N)) (fl : Int) (rs : List Int) (m0 m1 cp : Int) (nm : ByteArray) (x : Tr) (b : Nat) (ok : Nat → Prop) (w : World) (hN : ncT x ≤ N) (hm : 1 ≤ m0) (hm2 : m0 < m1) (hm3 : m1 ≤ 1000)
    (hr : RsT w ok b ⟨17, fl, rs, m0, m1, cp, nm, [x]⟩) (hf : fnT ⟨17, fl, rs, m0, m1, cp, nm, [x]⟩) (hs : snT x) :
    Calls Try.prog 32 #[.pointer (some ⟨b, 0, none⟩)] w (SimP w ok (simT ⟨17, fl, rs, m0, m1, cp, nm, [x]⟩)) := by
  obtain ⟨c, g, o, cS, c0, c1, c2, c7, c8, c3, CI, hf0, hf1⟩ := rep_open IH hN hr hf hs
  rw [sim_rep]
  have he : repF fl m0 m1 (simT x) = catT (List.replicate m0.toNat (simT x) ++ [sfx fl (simT x) (m1 - m0 - 1).toNat]) := by
    unfold repF
    rw [if_neg (by omega), if_neg (by omega), if_neg (by omega), if_pos (by omega), if_pos (by omega)]
  rw [he]
  have t0 : (m0 == 0) = false := by simpa using (show ¬ m0 = 0 by omega)
  have tm : (m1 == -1) = false := by simpa using (show ¬ m1 = -1 by omega)
  have tm1 : (m1 == 1) = false := by simpa using (show ¬ m1 = 1 by omega)
  have tp : decide (0 < m0) = true := by simpa using (show 0 < m0 by omega)
  clear hr hf hs IH he
  have t1c : (m0 == 1) = true ∨ (m0 == 1) = false := by cases (m0 == 1) <;> simp
  rcases t1c with t1 | t1
  all_goals
    go_enter Try.func32, Try.ntmps32
    go_upto_region 47 with (go_at_call 32; refine CI.out.mono ?_; rintro e w1 ⟨s, x1, rfl, hb1, hx1, hfx1, hnm1⟩; have d1 := Gb.cellB hb1 c1; have d7 := Gb.cellB hb1 c7; have d8 := Gb.cellB hb1 c8; clear c0 c1 c2 c3 c7 c8)
    have HB1 := Lib.hid hb1
    have HX := Lib.hid hx1
    have HFX := Lib.hid hfx1
    have HNM := Lib.hid hnm1
    have hbl := Gb.lt d1
    clear hb1 hx1 hfx1 hnm1 CI t0 tm tm1 tp t1
    go_wp2_with fail
    have CS0 := Lib.hid (CatS.start w1)
    generalize hq : w1.heap.size = q at *
    generalize w1.alloc (.cells #[.int .u8 18, .int .u16 0, .slice (some ⟨q, 3, none⟩) 0 1, .pointer none, .slice none 0 0, .int .i32 0, .int .i32 0, .int .i64 0, .int .i64 0, .int .i64 0, .string ⟨#[]⟩] 69) = W2 at *
    go_loopg [12] 2000 (fun g s12 wx => ∃ (i : Nat) (v : Value), s12 = .int .i64 i ∧ (i : Int) ≤ m0 ∧ CatS w1 q (ptrs (List.replicate i s)) v wx ∧ 1000 - i < g)
    case atStart => exact ⟨0, _, rfl, by omega, CS0.out, by omega⟩
    case round =>
      obtain ⟨i, v, rfl, hi, hcs, hg⟩ := hrel
      obtain ⟨g', rfl⟩ : ∃ g', gk = g' + 1 := ⟨gk - 1, by omega⟩
      have HCS := Lib.hid hcs
      obtain ⟨hq', hbq, hlt, u, hu, hk, hLi⟩ := hcs
      obtain ⟨Av, cv, hv⟩ := hLi.form
      have hlen : (ptrs (List.replicate i s)).length = i := by simp
      rw [hlen] at hv
      subst hv
      have HLN := Lib.hid hlen
      clear hlen
      have y1 : wr.cell? ⟨b, 1, none⟩ = some (.int .u16 fl) := (hbq.cell (p := ⟨b, 1, none⟩) (by show b < q; omega)).trans d1
      have y7 : wr.cell? ⟨b, 7, none⟩ = some (.int .i64 m0) := (hbq.cell (p := ⟨b, 7, none⟩) (by show b < q; omega)).trans d7
      have y8 : wr.cell? ⟨b, 8, none⟩ = some (.int .i64 m1) := (hbq.cell (p := ⟨b, 8, none⟩) (by show b < q; omega)).trans d8
      have z2 : wr.cell? ⟨q, 2, none⟩ = some (.slice Av i cv) := (blk_cell hk 2).trans rfl
      have HQ := Lib.hid hbq; have HK := Lib.hid hk; have HLI := Lib.hid hLi; have HU := Lib.hid hu
      clear hq' hbq hk hLi hu CS0 d1 d7 d8
      by_cases hlt2 : (i : Int) < m0
      · go_wp2_with (at_builtin; refine wp_grow rfl (.tmp 240) (.tmp 242) rfl (T := q) (b := q) (m := 1) (news := [pt s]) (HLI.out.move (w1 := wr.alloc (.cells #[pt s] 46)) fun k hk _ => Below.heap_alloc _ _ _ (HLI.out.lt hlt hk)) (Nat.le_refl _) (Mem.blk_old HK.out _) rfl HU.out rfl ⟨wr.heap.size, 0, none⟩ rfl rfl one_at (by simp [isPtr]) (by omega) (by rw [HLN.out]; omega) ?_; intro v' w' u' hk' hu' hL' hs' ho' hB' hor; obtain ⟨A', c', hv'⟩ := hL'.form; rw [List.length_append, HLN.out] at hv'; subst hv'; have z2' : w'.cell? ⟨q, 2, none⟩ = some (.slice Av i cv) := (blk_cell hk' 2).trans rfl; have fz := blk_frozen hk' 2; have HC := Lib.hid (CatS.put hq.symm (hB' w1 (HQ.out.alloc (by omega) _)) hu' hk' hL'); clear hk' hu' hL' hs' ho' hB' hor)
        go_roundg g'
        case rel => exact ⟨i + 1, _, by go_num, by omega, by rw [ptrs_rep]; exact HC.out, by omega⟩
        case measure => omega
      · have hie : (i : Int) = m0 := by omega
        have HIE := Lib.hid hie
        clear hie
        have tl : decide ((i : Int) < m0) = false := by simpa using (show m0 ≤ (i : Int) by omega)
        go_upto_region 53 with fail
        have tgt : decide (m0 < m1) = true := by simpa using (show m0 < m1 by omega)
        clear tl
        go_quiet (fail)
        have B0 : Below wr.heap.size wr (wr.drewN nq) := Gb.dn (Below.refl _ _) nq
        have d1 := Gb.cellB B0 y1
        have d7 := Gb.cellB B0 y7
        have d8 := Gb.cellB B0 y8
        have HX0 : Hid (RsT (wr.drewN nq) (fun k => (ok k ∨ w.heap.size ≤ k) ∧ k < q) s x1) := Lib.hid (rsT_move (fun k hk hlt => ⟨(B0.block k (by omega)).trans (HQ.out.block k (by omega)), hk, by omega⟩) x1 s HX.out)
        have HL0 := Lib.hid (HLI.out.move (w1 := wr.drewN nq) fun k hk _ => B0.block k (HLI.out.lt hlt hk))
        have HK0 := Lib.hid ((B0.block q hlt).trans HK.out)
        have HQ0 := Lib.hid (HQ.out.trans (B0.mono (by omega)))
        have hlt0 : q < (wr.drewN nq).heap.size := hlt
        clear B0 y1 y7 y8 z2 HK HLI HQ HCS hlt tgt hlt2
        generalize wr.drewN nq = W0 at *
        obtain ⟨okS, hok⟩ : ∃ okS : Nat → Prop, okS = fun k => (ok k ∨ w.heap.size ≤ k) ∧ k < q := ⟨_, rfl⟩
        rw [← hok] at HX0
        have HOK := Lib.hid hok
        clear hok
        have C1 := Lib.hid (simplify1_nil 16 fl s x1 okS W0 (by omega) hf0 hf1 HX0.out HFX.out)
        rw [HNM.out] at C1
        go_upto_region 55 with (go_at_call 43; refine C1.out.mono ?_; rintro e w3 ⟨b3, t3, rfl, hb3, ht3, hf3, hn3⟩)
        have HS0 : Hid (SfxS W0 okS fl (simT x) 0 b3 w3) := Lib.hid (SfxS.of ⟨b3, t3, rfl, hb3, ht3, hf3, by rw [sfx]; exact hn3⟩)
        have e1 := Gb.cellB hb3 d1
        have e7 := Gb.cellB hb3 d7
        have e8 := Gb.cellB hb3 d8
        have hi9 : i ≤ 999 := by omega
        clear hb3 ht3 hf3 hn3 C1 hg hi
        go_wp2_with fail
        go_loopg [13, 14] 2000 (fun g s13 s14 wx => ∃ (j b3 : Nat), s13 = pt b3 ∧ s14 = .int .i64 (m0 + 1 + (j : Int)) ∧ (j : Int) ≤ m1 - m0 - 1 ∧ SfxS W0 okS fl (simT x) j b3 wx ∧ 1000 - j < g)
        case atStart => exact ⟨0, b3, rfl, by first | rfl | simp, by omega, HS0.out, by omega⟩
        case round =>
          obtain ⟨j, b3, rfl, rfl, hj, hsx, hg⟩ := hrel
          obtain ⟨g', rfl⟩ : ∃ g', gk = g' + 1 := ⟨gk - 1, by omega⟩
          have HSX := Lib.hid hsx
          have hb0 := hsx.1
          have y1 : wr.cell? ⟨b, 1, none⟩ = some (.int .u16 fl) := Gb.cellB hb0 d1
          have y7 : wr.cell? ⟨b, 7, none⟩ = some (.int .i64 m0) := Gb.cellB hb0 d7
          have y8 : wr.cell? ⟨b, 8, none⟩ = some (.int .i64 m1) := Gb.cellB hb0 d8
          have hbr := Gb.lt y1
          have HB0 := Lib.hid hb0
          clear hsx hb0 HS0 d1 d7 d8
          by_cases hlt : (j : Int) < m1 - m0 - 1
          · have tl : decide (m0 + 1 + (j : Int) < m1) = true := by simpa using (show m0 + 1 + (j : Int) < m1 by omega)
            have K2 := Lib.hid (Mem.blk_new wr (.cells #[.int .u8 18, .int .u16 0, .slice none 0 0, .pointer none, .slice none 0 0, .int .i32 0, .int .i32 0, .int .i64 0, .int .i64 0, .int .i64 0, .string ⟨#[]⟩] 69))
            have BW5 : Hid (Below wr.heap.size wr (wr.alloc (.cells #[.int .u8 18, .int .u16 0, .slice none 0 0, .pointer none, .slice none 0 0, .int .i32 0, .int .i32 0, .int .i64 0, .int .i64 0, .int .i64 0, .string ⟨#[]⟩] 69))) := Lib.hid ((Below.refl _ _).alloc (Nat.le_refl _) _)
            have hl2 : wr.heap.size < (wr.alloc (.cells #[.int .u8 18, .int .u16 0, .slice none 0 0, .pointer none, .slice none 0 0, .int .i32 0, .int .i32 0, .int .i64 0, .int .i64 0, .int .i64 0, .string ⟨#[]⟩] 69)).heap.size := by simp
            go_upto_region 59 with fail
            generalize hq2 : wr.heap.size = q2 at *
            generalize wr.alloc (.cells #[.int .u8 18, .int .u16 0, .slice none 0 0, .pointer none, .slice none 0 0, .int .i32 0, .int .i32 0, .int .i64 0, .int .i64 0, .int .i64 0, .string ⟨#[]⟩] 69) = W5 at *
            have x1c : W5.cell? ⟨b, 1, none⟩ = some (.int .u16 fl) := (BW5.out.cell (p := ⟨b, 1, none⟩) hbr).trans y1
            have x7c : W5.cell? ⟨b, 7, none⟩ = some (.int .i64 m0) := (BW5.out.cell (p := ⟨b, 7, none⟩) hbr).trans y7
            have x8c : W5.cell? ⟨b, 8, none⟩ = some (.int .i64 m1) := (BW5.out.cell (p := ⟨b, 8, none⟩) hbr).trans y8
            have Y1 := Lib.hid y1
            clear y1 y7 y8
            go_upto_region 60 with (at_builtin; refine wp_grow rfl (.tmp 280) (.tmp 283) rfl (T := q2) (b := q2) (m := 2) (us := []) (news := [pt s, pt b3]) (u := .pointer none) (.inl ⟨rfl, .inl rfl⟩) (Nat.le_refl _) (Mem.blk_old K2.out _) rfl ⟨_, rfl⟩ rfl ⟨W5.heap.size, 0, none⟩ rfl rfl two_at (by simp [isPtr]) (by omega) (by simp) ?_; intro v' w' u' hk' hu' hL' hs' ho' hB' hor; obtain ⟨A', c', rfl⟩ := hL'.form; have z2' : w'.cell? ⟨q2, 2, none⟩ = some (.slice none 0 0) := (blk_cell hk' 2).trans rfl; have fz := blk_frozen hk' 2; have HC : Hid (CatS wr q2 (ptrs [s, b3]) (.slice A' 2 c') (w'.setCell ⟨q2, 2, none⟩ (.slice A' 2 c'))) := Lib.hid (CatS.put hq2.symm (hB' wr (BW5.out.alloc (by omega) _)) hu' hk' hL'); clear hk' hu' hL' hs' ho' hB' hor)
            generalize w'.setCell ⟨q2, 2, none⟩ (.slice A' 2 c') = W4 at *
            obtain ⟨hbq, t4, h4, hf4, hn4⟩ := (SfxS.cat HSX.out HX0.out HFX.out HNM.out HC.out).at
            have C4 := Lib.hid (simplify1_nil 16 fl q2 t4 _ W4 (by omega) hf0 hf1 h4 hf4)
            rw [hn4, ← sfx] at C4
            have HBQ := Lib.hid hbq
            have v1 : W4.cell? ⟨b, 1, none⟩ = some (.int .u16 fl) := (hbq.cell (p := ⟨b, 1, none⟩) (show b < wr.heap.size by omega)).trans Y1.out
            clear hbq h4 hf4 hn4 x1c x7c x8c z2' fz
            go_wp2_with (go_at_call 43; refine C4.out.mono ?_; rintro e w5 ⟨b5, t5, rfl, hb5, ht5, hf5, hn5⟩; have HS5 := Lib.hid (SfxS.step HB0.out HBQ.out ⟨b5, t5, rfl, hb5, ht5, hf5, hn5⟩); clear hb5 ht5 hf5 hn5)
            go_roundg g'
            case rel => exact ⟨j + 1, b5, rfl, by go_num, by omega, HS5.out, by omega⟩
            case measure => omega
          · have hje : (j : Int) = m1 - m0 - 1 := by omega
            have tl : decide (m0 + 1 + (j : Int) < m1) = false := by simpa using (show m1 ≤ m0 + 1 + (j : Int) by omega)
            have hbs := HSX.out.1
            have hk3 := (hbs.block q hlt0).trans HK0.out
            have hL3 := HL0.out.move (w1 := wr.alloc (.cells #[pt b3] 46)) fun k hk _ => (Below.heap_alloc _ _ _ (Nat.lt_of_lt_of_le (HL0.out.lt hlt0 hk) hbs.size)).trans (hbs.block k (HL0.out.lt hlt0 hk))
            have hs3 := hbs.size
            obtain ⟨_, t3, h3, hf3, hn3⟩ := HSX.out
            have z2 : wr.cell? ⟨q, 2, none⟩ = some (.slice Av i cv) := (blk_cell hk3 2).trans rfl
            have H3 := Lib.hid h3; have HF3 := Lib.hid hf3; have HN3 := Lib.hid hn3; have HK3 := Lib.hid hk3; have HL3 := Lib.hid hL3; have HBS := Lib.hid hbs
            have HJE := Lib.hid hje
            clear h3 hf3 hn3 hje hlt hk3 hL3 hbs
            go_wp2_with (at_builtin; refine wp_grow rfl (.tmp 300) (.tmp 302) rfl (T := q) (b := q) (m := 1) (news := [pt b3]) HL3.out (Nat.le_refl _) (Mem.blk_old HK3.out _) rfl HU.out rfl ⟨wr.heap.size, 0, none⟩ rfl rfl one_at (by simp [isPtr]) (by omega) (by rw [HLN.out]; omega) ?_; intro v' w' u' hk' hu' hL' hs' ho' hB' hor; obtain ⟨A', c', hv'⟩ := hL'.form; rw [List.length_append, HLN.out] at hv'; subst hv'; have z2' : w'.cell? ⟨q, 2, none⟩ = some (.slice Av i cv) := (blk_cell hk' 2).trans rfl; have fz := blk_frozen hk' 2; have hC := CatS.put hq.symm (hB' w1 ((HQ0.out.trans (HBS.out.mono (by omega))).alloc (by omega) _)) hu' hk' hL'; have hE := CatS.last hq HQ0.out hlt0 HL0.out HX.out HFX.out HBS.out (rsT_move (ok' := fun k => ((ok k ∨ w.heap.size ≤ k) ∧ k < q) ∨ W0.heap.size ≤ k) (fun k hk _ => ⟨rfl, (by rw [HOK.out] at hk; exact hk)⟩) t3 b3 H3.out) HF3.out (i := i) (by omega) (fun k hk hne hn => (far1 w' hne 2 _).trans ((ho' k (by simp; omega) hne hn).trans (Below.heap_alloc _ _ _ hk))) hC; rw [HNM.out, HN3.out] at hE; have HE := Lib.hid (SimP.widen (w := w) (ok := ok) hE HB1.out (fun k hk => hk)); clear hk' hu' hL' hs' ho' hB' hor hC hE)
            go_ret
            rw [show m0.toNat = i by have := HIE.out; omega, show (m1 - m0 - 1).toNat = j by have := HJE.out; omega]
            exact HE.out
end Go.Proofs.Ytholpemmakdglaa.PFnSySimplifyTwice
