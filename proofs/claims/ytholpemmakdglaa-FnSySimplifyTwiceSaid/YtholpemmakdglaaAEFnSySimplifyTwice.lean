/- The thin package reads a tree of the package back as data. A node of the package's own whose parts are appended one behind the other, the first of them within the node itself. -/
import Derived.Test.YtholpemmakdglaaADFnSySimplifyTwice
import Derived.Test.YtholpemmakdglaaAA
import Derived.Deep.DeepCutAuto
import Derived.Deep.CutBlock
import Derived.Deep.LoopGhost
import Derived.Deep.RegionHeld3
import Derived.LaidEqlPtr
import Derived.Laws.Entries
namespace Go.Proofs.Ytholpemmakdglaa.PFnSySimplifyTwice
open Go.RowKit Go.Proofs.YtholpemmakdglaaW.PrintWords Go.Proofs.YtholpemmakdglaaW.PrintLast Go.Proofs.YtholpemmakdglaaW.PrintMore
set_option linter.unusedVariables false
set_option linter.unusedSimpArgs false
theorem CRow.ints {w : World} {ok : Nat → Prop} {v : Value} {zs : List Int} (h : CRow w ok v (zs.map (Value.int .i32))) : ∃ A c, v = .slice A zs.length c ∧ zs.length ≤ c ∧ (Kd.int .i32).C w A zs.length zs := by
  obtain ⟨A, c, rfl, h1, h2, h3⟩ := h
  rw [List.length_map] at h1 h3 ⊢
  refine ⟨A, c, rfl, h1, rfl, by unfold maxLen at h2; omega, fun h0 => ?_⟩
  obtain ⟨g, o, rfl, _, hc⟩ := h3 h0
  refine ⟨_, rfl, fun j p hj => ⟨[.int .i32 p], rfl, rfl, fun i u hu => ?_⟩⟩
  have hi : i = 0 := by
    cases i with
    | zero => rfl
    | succ i => simp at hu
  subst hi
  simp at hu
  subst hu
  rw [show (Kd.int .i32).sz = 1 from rfl, Nat.mul_one, Nat.add_zero, Addr.add_lit]
  exact hc j _ (by rw [List.getElem?_map, hj]; rfl)
mutual
/-- Numbers and lists of a tree as the package keeps them. -/
def fnT : Tr → Prop
  | ⟨op, fl, rs, _, _, _, _, ts⟩ => (0 ≤ op ∧ op ≤ 255 ∧ 0 ≤ fl ∧ fl ≤ 65535) ∧ Room rs.length 4 ∧ Room ts.length 8 ∧ fnL ts
def fnL : List Tr → Prop
  | [] => True
  | t :: ts => fnT t ∧ fnL ts
end
mutual
theorem fn_fl : ∀ t : Tr, szT t → opT t → fnT (flT t)
  | ⟨op, fl, rs, m0, m1, cp, nm, ts⟩, hz, ho => by
    rw [szT] at hz
    rw [opT] at ho
    rw [flT, fnT, flL_len]
    refine ⟨⟨ho.1, ho.2.1, ?_, ?_⟩, hz.1, hz.2.1, fnL_fl ts hz.2.2 ho.2.2⟩
    · rw [IntKind.wrap_u16]; omega
    · rw [IntKind.wrap_u16]; omega
theorem fnL_fl : ∀ ts : List Tr, szL ts → opL ts → fnL (flL ts)
  | [], _, _ => by rw [flL, fnL]; trivial
  | t :: ts, hz, ho => by
    rw [szL] at hz
    rw [opL] at ho
    rw [flL, fnL]
    exact ⟨fn_fl t hz.1 ho.1, fnL_fl ts hz.2 ho.2⟩
end
section
variable {P : Program} {w : World}
theorem run_copy (t ty : TypeId) (base : Nat) (e : TypeId) (bytes : Nat) (ht : P.underlying t = some (.slice e)) (hi : (P.info? e).map (fun i => (i.zero, i.size, i.bytes)) = some (some (.int .i32 0), 1, bytes))
    (A : Option Addr) (zs : List Int) (cap : Nat) (hz : (Kd.int .i32).C w A zs.length zs) (hbytes : Room zs.length bytes) (hbase : base ≤ w.heap.size) :
    ∃ v' w', (Builtin.append_ #[t, t] ty #[.slice none 0 0, .slice A zs.length cap]).run P w = .ok v' w' ∧ w'.ownsRow base e 1 v' zs.length (zs.map (Value.int .i32)) ∧ w.grownBy w' none := by
  obtain ⟨i0, hi0, hz0, hz1, hz2⟩ := info_parts hi
  by_cases h0 : zs.length = 0
  · have hzs : zs = [] := List.length_eq_zero_iff.mp h0
    subst hzs
    have hsrc : Src P i0.size t (.slice A 0 cap) 0 [] w := by
      cases A with
      | none => exact Src.ofNil w ht cap
      | some ad => exact Src.ofSlice w ht ad 0 cap [] (by simp) (by simp) (by simp)
    exact ⟨.slice none 0 0, w, run_append_nothing (P := P) w t t ty e i0 ht hi0 none 0 0 (Nat.le_refl _) _ hsrc, World.ownsRow_nil _ _ _ _, ⟨rfl, rfl, rfl, Nat.le_refl _, fun _ _ _ => rfl⟩⟩
  · obtain ⟨ad, rfl, hc⟩ := hz.2.2 (by omega)
    have hm : zs.length ≤ maxLen := by have := hz.2.1; unfold maxLen; omega
    obtain ⟨v', w', hr, ho', hg, -⟩ := run_append_own (P := P) w base t ty e i0 (.int .i32 0) 1 bytes ht hi0 hz0 hz1 hz2 rfl (by omega) (.slice none 0 0) 0 [] (World.ownsRow_nil _ _ _ _) ad zs.length cap (zs.map (Value.int .i32)) (by simp) (by
      intro j u hj
      obtain ⟨p, hp, rfl⟩ : ∃ p, zs[j]? = some p ∧ Value.int .i32 p = u := by simpa using hj
      obtain ⟨c, _, hR, hcc⟩ := hc j p hp
      have h1 := hcc 0 (Value.int .i32 p) (by rw [show c = [.int .i32 p] from hR]; rfl)
      rw [show (Kd.int .i32).sz = 1 from rfl, Nat.mul_one, Nat.add_zero] at h1
      exact h1) (by simp [Value.oneCell']) (by simpa using hm) (by unfold Room at hbytes; simpa using hbytes) hbase
    simp only [Nat.zero_add, List.nil_append] at ho'
    exact ⟨v', w', hr, ho', hg⟩
/-- 'append([]int32(nil), x...)' in a region that draws its order. -/
theorem step_copy {ops : Array Oper} {o : Oper} {a : Act} {K : Act → World → Prop} {Q : Exit → Act → World → Prop} {E : Prop} (hgd : o.guard = none) (x : Operand) (t : TypeId)
    (ho : o.op = .call { callee := .builtin .append, args := #[.const (.slice none 0 0), x], argTypes := #[t, t] })
    (base : Nat) (e : TypeId) (bytes : Nat) (ht : P.underlying t = some (.slice e)) (hi : (P.info? e).map (fun i => (i.zero, i.size, i.bytes)) = some (some (.int .i32 0), 1, bytes))
    (A : Option Addr) (zs : List Int) (cap : Nat) (hx : a.eval x = .slice A zs.length cap) (hz : (Kd.int .i32).C w A zs.length zs) (hbytes : Room zs.length bytes) (hbase : base ≤ w.heap.size)
    (h : ∀ v' w', w'.ownsRow base e 1 v' zs.length (zs.map (Value.int .i32)) → w.grownBy w' none → K (a.put o.dst v') w') :
    if Region.wanted o (yielded ops a.tmps) = true then Oper.wp P o a w K Q else E := by
  have hw : Region.wanted o (yielded ops a.tmps) = true := by simp [Region.wanted, hgd]
  rw [if_pos hw]
  obtain ⟨v', w', hr, h1, h2⟩ := run_copy (P := P) (w := w) t o.type base e bytes ht hi A zs cap hz hbytes hbase
  have he : a.eval (.const (.slice none 0 0)) = .slice none 0 0 := rfl
  unfold Oper.wp execOp
  simp only [ho, resolve, invoke, builtin, Sem.run_bind, Sem.run_pure, Result.andThen_ok, List.map_toArray, List.map_cons, List.map_nil, he, hx, hr]
  exact h v' w' h1 h2
end
/-- Eight cells of a block written, one behind the other. -/
abbrev w8 (w : World) (g : Nat) (v0 v1 v2 v3 v4 v5 v6 v7 : Value) : World :=
  (((((((w.setCell ⟨g, 0, none⟩ v0).setCell ⟨g, 1, none⟩ v1).setCell ⟨g, 2, none⟩ v2).setCell ⟨g, 3, none⟩ v3).setCell ⟨g, 4, none⟩ v4).setCell ⟨g, 5, none⟩ v5).setCell ⟨g, 6, none⟩ v6).setCell ⟨g, 7, none⟩ v7
theorem w8_blk {w : World} {g : Nat} {t : TypeId} {a0 a1 a2 a3 a4 a5 a6 a7 : Value} (h : w.heap[g]? = some (.cells #[a0, a1, a2, a3, a4, a5, a6, a7] t (0, 0))) (v0 v1 v2 v3 v4 v5 v6 v7 : Value) :
    (w8 w g v0 v1 v2 v3 v4 v5 v6 v7).heap[g]? = some (.cells #[v0, v1, v2, v3, v4, v5, v6, v7] t (0, 0)) := by
  have h0 := blk_put h 0 v0 (cs' := #[v0, a1, a2, a3, a4, a5, a6, a7]) rfl
  have h1 := blk_put h0 1 v1 (cs' := #[v0, v1, a2, a3, a4, a5, a6, a7]) rfl
  have h2 := blk_put h1 2 v2 (cs' := #[v0, v1, v2, a3, a4, a5, a6, a7]) rfl
  have h3 := blk_put h2 3 v3 (cs' := #[v0, v1, v2, v3, a4, a5, a6, a7]) rfl
  have h4 := blk_put h3 4 v4 (cs' := #[v0, v1, v2, v3, v4, a5, a6, a7]) rfl
  have h5 := blk_put h4 5 v5 (cs' := #[v0, v1, v2, v3, v4, v5, a6, a7]) rfl
  have h6 := blk_put h5 6 v6 (cs' := #[v0, v1, v2, v3, v4, v5, v6, a7]) rfl
  have h7 := blk_put h6 7 v7 (cs' := #[v0, v1, v2, v3, v4, v5, v6, v7]) rfl
  exact h7
theorem far1 (w : World) {g k : Nat} (hk : k ≠ g) (o : Nat) (v : Value) : (w.setCell ⟨g, o, none⟩ v).heap[k]? = w.heap[k]? := Below.heap_setCell w ⟨g, o, none⟩ v k hk
theorem w8_far (w : World) {g k : Nat} (hk : k ≠ g) (v0 v1 v2 v3 v4 v5 v6 v7 : Value) : (w8 w g v0 v1 v2 v3 v4 v5 v6 v7).heap[k]? = w.heap[k]? :=
  by simp only [w8, far1 _ hk]
theorem w8_below {T : Nat} {a w : World} {g : Nat} (h : Below T a w) (hg : T ≤ g) (v0 v1 v2 v3 v4 v5 v6 v7 : Value) : Below T a (w8 w g v0 v1 v2 v3 v4 v5 v6 v7) :=
  (((((((h.setCell hg v0).setCell hg v1).setCell hg v2).setCell hg v3).setCell hg v4).setCell hg v5).setCell hg v6).setCell hg v7
theorem len_nc : ∀ ts : List Tr, ts.length ≤ ncL ts
  | [] => by rw [ncL]; simp
  | t :: ts => by rw [ncL, List.length_cons]; have := len_nc ts; have := ncT_pos t; omega
set_option maxRecDepth 100000 in
set_option maxHeartbeats 4000000 in
theorem treeOf_c : ∀ (N : Nat), N ≤ 50000 → ∀ (t : Tr) (b : Nat) (ok : Nat → Prop) (w : World), ncT t ≤ N → RsT w ok b t → fnT t →
    Calls Try.prog 31 #[.pointer (some ⟨b, 0, none⟩)] w fun e w' => ∃ cs, e = .returned (.agg cs.toArray) ∧ Below w.heap.size w w' ∧ k35.M w' w.heap.size (fun k => w.heap.size ≤ k) t cs := by
  intro N
  induction N with
  | zero => intro _ t b ok w hN; have := ncT_pos t; omega
  | succ N ih =>
    intro hN5 t b ok w hN hr hfn
    obtain ⟨op, fl, rs, m0, m1, cp, nm, ts⟩ := t
    rw [ncT] at hN
    rw [RsT] at hr
    rw [fnT] at hfn
    obtain ⟨⟨ho0, ho1, hf0, hf1⟩, hR4, hR8, hfl⟩ := hfn
    obtain ⟨_, vS, v3, vR, bs, hbk, hR, hS, hL⟩ := hr
    have IH := Lib.hid ih
    clear ih
    obtain ⟨AR, cR, rfl, hrc, hRC⟩ := hR.ints
    have hb0 : b < w.heap.size := lt_of_block hbk
    have bA : Below w.heap.size w (w.alloc (.cells #[.int .i64 0, .int .i64 0, .slice none 0 0, .int .i64 0, .int .i64 0, .int .i64 0, .string ⟨#[]⟩, .slice none 0 0] 35)) := (Below.refl _ _).alloc (Nat.le_refl _) _
    have k0 := Mem.blk_new w (.cells #[.int .i64 0, .int .i64 0, .slice none 0 0, .int .i64 0, .int .i64 0, .int .i64 0, .string ⟨#[]⟩, .slice none 0 0] 35)
    have k1 := (bA.block b hb0).trans hbk
    have hwo : IntKind.i64.wrap op = op := by rw [IntKind.wrap_i64]; omega
    have hwf : IntKind.i64.wrap fl = fl := by rw [IntKind.wrap_i64]; omega
    go_enter Try.func31, Try.ntmps31
    go_upto_region 1 with fail
    generalize w.alloc (.cells #[.int .i64 0, .int .i64 0, .slice none 0 0, .int .i64 0, .int .i64 0, .int .i64 0, .string ⟨#[]⟩, .slice none 0 0] 35) = W1 at *
    have hlt1 : w.heap.size < W1.heap.size := lt_of_block k0
    have hn1 : W1.heap.size ≠ b := by have := lt_of_block k1; omega
    have HRC := Lib.hid (Kd.C_below hRC bA)
    have c0 : W1.cell? ⟨b, 0, none⟩ = some (.int .u8 op) := (blk_cell k1 0).trans rfl
    have c1 : W1.cell? ⟨b, 1, none⟩ = some (.int .u16 fl) := (blk_cell k1 1).trans rfl
    have c4 : W1.cell? ⟨b, 4, none⟩ = some (.slice AR rs.length cR) := (blk_cell k1 4).trans rfl
    have c7 : W1.cell? ⟨b, 7, none⟩ = some (.int .i64 m0) := (blk_cell k1 7).trans rfl
    have c8 : W1.cell? ⟨b, 8, none⟩ = some (.int .i64 m1) := (blk_cell k1 8).trans rfl
    have c9 : W1.cell? ⟨b, 9, none⟩ = some (.int .i64 cp) := (blk_cell k1 9).trans rfl
    have c10 : W1.cell? ⟨b, 10, none⟩ = some (.string nm) := (blk_cell k1 10).trans rfl
    have BA := Lib.hid bA
    have K0 := Lib.hid k0
    have K1 := Lib.hid k1
    have HSS := Lib.hid hS
    have HLL := Lib.hid hL
    clear bA k0 k1 hbk hR hRC hS hL
    generalize hT0 : w.heap.size = T0 at *
    go_upto_region 2 with fail
    go_cut [3] (fun s3 wx => ∃ q v2, s3 = .pointer (some ⟨q, 0, none⟩) ∧ T0 < q ∧ Below T0 w wx ∧ wx.heap[T0]? = some (.cells #[.int .i64 0, .int .i64 0, .slice none 0 0, .int .i64 0, .int .i64 0, .int .i64 0, .string ⟨#[]⟩, .slice none 0 0] 35 (0, 0)) ∧
      wx.heap[q]? = some (.cells #[.int .i64 op, .int .i64 fl, v2, .int .i64 m0, .int .i64 m1, .int .i64 cp, .string nm, .slice none 0 0] 35 (0, 0)) ∧ wx.ownsRow (T0 + 1) 21 1 v2 rs.length (rs.map (Value.int .i32)))
    case first =>
      go_region_held3 (fun w' => w'.cell? ⟨b, 0, none⟩ = some (.int .u8 op) ∧ w'.cell? ⟨b, 1, none⟩ = some (.int .u16 fl) ∧ w'.cell? ⟨b, 4, none⟩ = some (.slice AR rs.length cR) ∧ w'.cell? ⟨b, 7, none⟩ = some (.int .i64 m0) ∧ w'.cell? ⟨b, 8, none⟩ = some (.int .i64 m1) ∧ w'.cell? ⟨b, 9, none⟩ = some (.int .i64 cp) ∧ w'.cell? ⟨b, 10, none⟩ = some (.string nm)) (go_keep)
        ((refine step_copy rfl (.tmp 19) 26 rfl (T0 + 1) 21 4 (by kernel_rfl) (by kernel_rfl) AR rs cR (by simp [Act.eval]) (Kd.C_below HRC.out (by first | exact Below.refl _ _ | exact (Below.refl _ _).drew | exact (Below.refl _ _).drew.alloc (Nat.le_refl _) _)) hR4 (by first | (simp; done) | (simp; omega)) ?_; intro v2 w2 oR gR; obtain ⟨A2, c2, rfl⟩ := own_slice oR; have g0 : W1.grownBy w2 none := Gb.trans (by first | exact Gb.drewN _ 1 _ | exact Gb.trans (Gb.drewN _ 1 _) (World.grownBy_alloc _ _ _)) gR; have e0 := Gb.cell g0 c0 (by simp); have e1 := Gb.cell g0 c1 (by simp); have e4 := Gb.cell g0 c4 (by simp); have e7 := Gb.cell g0 c7 (by simp); have e8 := Gb.cell g0 c8 (by simp); have e9 := Gb.cell g0 c9 (by simp); have e10 := Gb.cell g0 c10 (by simp); have hs2 := g0.size; have hn2 : w2.heap.size ≠ b := (by omega); (try (have hq : w2.heap[W1.heap.size]? = some (.cells #[.int .i64 0, .int .i64 0, .slice none 0 0, .int .i64 0, .int .i64 0, .int .i64 0, .string ⟨#[]⟩, .slice none 0 0] 35 (0, 0)) := Mem.blk_grown (Mem.blk_new W1.drew (.cells #[.int .i64 0, .int .i64 0, .slice none 0 0, .int .i64 0, .int .i64 0, .int .i64 0, .string ⟨#[]⟩, .slice none 0 0] 35)) gR (by simp); have q0 := (blk_cell hq 0).trans rfl; have p0 := blk_frozen hq 0; have q1 := (blk_cell hq 1).trans rfl; have p1 := blk_frozen hq 1; have q2 := (blk_cell hq 2).trans rfl; have p2 := blk_frozen hq 2; have q3 := (blk_cell hq 3).trans rfl; have p3 := blk_frozen hq 3; have q4 := (blk_cell hq 4).trans rfl; have p4 := blk_frozen hq 4; have q5 := (blk_cell hq 5).trans rfl; have p5 := blk_frozen hq 5; have q6 := (blk_cell hq 6).trans rfl; have p6 := blk_frozen hq 6; have q7 := (blk_cell hq 7).trans rfl; have p7 := blk_frozen hq 7; have HQ := Lib.hid hq; clear hq)); have OR := Lib.hid oR; have GR := Lib.hid gR; clear oR gR hs2))
      · go_wp2_with fail
        go_meet
        exact ⟨w2.heap.size, .slice A2 rs.length c2, rfl, by have := g0.size; omega, (BA.out.grown g0 (by omega) (by simp)).alloc (by have := g0.size; omega) _,
          Mem.blk_old (Mem.blk_grown K0.out g0 (by simp)) _, Mem.blk_new _ _, OR.out.alloc _⟩
      · go_wp2_with fail
        go_meet
        exact ⟨W1.heap.size, .slice A2 rs.length c2, rfl, hlt1, w8_below (BA.out.grown g0 (by omega) (by simp)) (by omega) _ _ _ _ _ _ _ _,
          (w8_far _ (by omega) _ _ _ _ _ _ _ _).trans (Mem.blk_grown K0.out g0 (by simp)), w8_blk HQ.out _ _ _ _ _ _ _ _,
          own_move OR.out fun k hk => w8_far _ (fun e => (by
            subst e
            exact Mem.own_apart OR.out HQ.out (by decide) hk.symm)) _ _ _ _ _ _ _ _⟩
    case rest =>
      obtain ⟨q, v2, rfl, hq0, hbw, hk0, hkq, hown⟩ := hcut
      obtain ⟨A2, c2, rfl⟩ := own_slice hown
      obtain ⟨AS, cS, rfl, hSc, hSm, hSr⟩ := HSS.out
      have hbl : (ptrs bs).length = ts.length := by rw [List.length_map]; exact rsL_len ts bs HLL.out
      rw [hbl] at hSc hSr
      have hlen := len_nc ts
      have hfit : ts.length ≤ 9223372036854775807 := by omega
      have k2 := (hbw.block b (by omega)).trans ((BA.out.block b (by omega)).symm.trans K1.out)
      have c2' : wc.cell? ⟨b, 2, none⟩ = some (.slice AS ts.length cS) := by rw [← hbl]; exact (blk_cell k2 2).trans rfl
      clear k2 c0 c1 c4 c7 c8 c9 c10 hn1
      go_wp2_with fail
      have HKQ := Lib.hid hkq
      have HK0 := Lib.hid hk0
      have HOW := Lib.hid hown
      have HBW := Lib.hid hbw
      have HSR := Lib.hid hSr
      have HFL := Lib.hid hfl
      have HBL := Lib.hid hbl
      clear hkq hk0 hown hbw hSr hfl hbl hSc hSm c2'
      go_loopg [43] (ts.length + 1) (fun g s43 wx => ∃ (i : Nat) (A7 : Option Addr) (c7 : Nat), s43 = .int .i64 i ∧ i ≤ ts.length ∧ Below T0 w wx ∧ q < wx.heap.size ∧
        wx.heap[T0]? = some (.cells #[.int .i64 0, .int .i64 0, .slice none 0 0, .int .i64 0, .int .i64 0, .int .i64 0, .string ⟨#[]⟩, .slice none 0 0] 35 (0, 0)) ∧
        wx.heap[q]? = some (.cells #[.int .i64 op, .int .i64 fl, .slice A2 rs.length c2, .int .i64 m0, .int .i64 m1, .int .i64 cp, .string nm, .slice A7 i c7] 35 (0, 0)) ∧
        wx.ownsRow (T0 + 1) 21 1 (.slice A2 rs.length c2) rs.length (rs.map (Value.int .i32)) ∧
        k35.R 35 wx (T0 + 1) (fun k => T0 + 1 ≤ k ∧ k ≠ q ∧ some k ≠ (Value.slice A2 rs.length c2).ownBlock) (.slice A7 i c7) (ts.take i) ∧ fnL (ts.drop i) ∧ ncL (ts.drop i) ≤ N ∧ ts.length - i < g)
      case atStart => exact ⟨0, none, 0, rfl, by omega, HBW.out, lt_of_block HKQ.out, HK0.out, HKQ.out, HOW.out, by rw [List.take_zero]; exact Kd.R_nil _ _ _ _ _, HFL.out, by rw [List.drop_zero]; omega, by omega⟩
      case round =>
        obtain ⟨i, A7, c7, rfl, hi, hbx, hqx, hx0, hxq, hxo, hxr, hxf, hxn, hg⟩ := hrel
        obtain ⟨g', rfl⟩ : ∃ g', gk = g' + 1 := ⟨gk - 1, by omega⟩
        have HB := Lib.hid hbx; have HX0 := Lib.hid hx0; have HXQ := Lib.hid hxq; have HXO := Lib.hid hxo; have HXR := Lib.hid hxr
        clear hbx hx0 hxq hxo hxr HKQ HK0 HOW HBW HFL
        by_cases hlt : i < ts.length
        · obtain ⟨t, ts', hd⟩ : ∃ t ts', ts.drop i = t :: ts' := by
            cases hdr : ts.drop i with
            | nil => have := List.drop_eq_nil_iff.1 hdr; omega
            | cons t ts' => exact ⟨t, ts', rfl⟩
          have hti : ts[i]? = some t := by
            have := congrArg List.head? hd
            rw [List.head?_drop] at this
            simpa using this
          obtain ⟨b', hb', hr'⟩ := rsL_get ts bs i t HLL.out hti
          obtain ⟨gg, oo, rfl, _, hcc⟩ := HSR.out (by omega)
          have hbT := HB.out
          rw [← hT0] at hbT
          have q0 := Gb.cellB hbT (hcc i _ (by rw [List.getElem?_map, hb']; rfl))
          have hd1 := (rd_at hd).2.2
          rw [hd] at hxf hxn
          rw [fnL] at hxf
          rw [ncL] at hxn
          have CI : Hid (∀ w1, Below wr.heap.size wr w1 → Calls Try.prog 31 #[.pointer (some ⟨b', 0, none⟩)] w1 fun e w' => ∃ cs, e = .returned (.agg cs.toArray) ∧ Below w1.heap.size w1 w' ∧ k35.M w' w1.heap.size (fun k => w1.heap.size ≤ k) t cs) := Lib.hid fun w1 hb1 =>
            IH.out (by omega) t b' ok w1 (by omega) (rsT_move (fun k hk hlt => ⟨(hb1.block k (Nat.lt_of_lt_of_le hlt hbT.size)).trans (hbT.block k hlt), hk⟩) t b' hr') hxf.1
          have HD := Lib.hid hd; have HD1 := Lib.hid hd1; have HF1 := Lib.hid hxf.2; have HN1 := Lib.hid hxn; have HTI := Lib.hid hti
          clear hd hti hb' hr' hcc hd1 hbT hxf hxn
          go_upto_region 5 with fail
          have z : wr.cell? ⟨q, 7, none⟩ = some (.slice A7 i c7) := (blk_cell HXQ.out 7).trans rfl
          refine Mem.wp_region_midk 3 3 (fun w' => w'.cell? ⟨q, 7, none⟩ = some (.slice A7 i c7)) (by kernel_rfl) (by kernel_rfl) z ?_
          simp only [List.take_succ_cons, List.take_zero, List.drop_succ_cons, List.drop_zero]
          iterate 3
            refine Mem.wpHeld_step (v := ?_) (by rfl) ?_ ?_
            rotate_left
            · intro w hSw; (try dsimp only at hSw); go_simp; try with_reducible rfl
            try simp only [Act.put, List.setIfInBounds_toArray, List.set_cons_zero, List.set_cons_succ]
          refine Mem.wpHeld_nil ?_
          simp only [Mem.midK]
          refine wpOp_step rfl ?_
          intro K' hK
          go_simp
          go_wp2_with (go_at_call 31; refine ((CI.out _ ((Below.refl _ _).drew)).mono ?_); rintro e w1 ⟨cs, rfl, hb6, hM6⟩)
          have b6 : Below wr.heap.size wr w1 := (Below.refl _ _).drew.trans hb6
          obtain ⟨v2, v7, rfl, g2, g7⟩ := k35_openM hM6
          obtain ⟨D2, d2, rfl⟩ := Kd.R_slice g2
          obtain ⟨D7, d7, rfl⟩ := Kd.R_slice g7
          clear g2 g7
          refine ⟨Gb.cellB b6 z, ?_⟩
          have hsz6 := b6.size
          refine wpOp_step rfl ?_
          intro K' hK
          go_simp
          have hS7 := b6.alloc b6.size (.cells #[.int .i64 t.f0, .int .i64 t.f1, .slice D2 t.f2.length d2, .int .i64 t.f3, .int .i64 t.f4, .int .i64 t.f5, .string t.f6, .slice D7 t.f7.length d7] 35)
          refine hK _ _ ⟨Gb.cellB hS7 z, ?_⟩
          clear hK K'
          refine wpOp_step rfl ?_
          intro K' hK
          have hR1 : k35.R 35 w1 (T0 + 1) (fun k => T0 + 1 ≤ k ∧ k ≠ q ∧ some k ≠ (Value.slice A2 rs.length c2).ownBlock) (.slice A7 i c7) (ts.take i) := Kd.R_below HXR.out b6
          have hown := HXO.out
          have hlw : ∀ k, (Value.slice A7 i c7).ownBlock = some k → k < wr.heap.size := Kd.R_lt HXR.out
          have hl2 : ∀ k, (Value.slice A2 rs.length c2).ownBlock = some k → k < wr.heap.size := fun k hk => (hown.lt k hk).2
          have hTr := HB.out.size
          have hti' : ts.take (i + 1) = ts.take i ++ [t] := by rw [List.take_add_one, HTI.out]; rfl
          have HTI2 := Lib.hid hti'
          clear hti'
          refine Kd.R_append_step k35 (w0 := w1) (T0 + 1) rfl (.tmp 48) (.tmp 51) 33 35 (.agg #[.int .i64 0, .int .i64 0, .slice none 0 0, .int .i64 0, .int .i64 0, .int .i64 0, .string ⟨#[]⟩, .slice none 0 0]) 104 rfl Try.underlying33 (by kernel_rfl) rfl (by decide) (by omega) (.slice A7 i c7) (ts.take i) t _ _ (fun k => wr.heap.size ≤ k ∧ k < w1.heap.size) rfl rfl
            (k35.M_lower (show T0 + 1 ≤ wr.drew.heap.size by show T0 + 1 ≤ wr.heap.size; omega) (k35.M_mono (fun k hk => ⟨hk.1, hk.2.2.1⟩) (k35.M_bound hM6))) (fun k hk => ⟨⟨by omega, by omega, fun e => by have := hl2 k e.symm; omega⟩, fun e => by have := hlw k e.symm; omega⟩) (fun k hk => ⟨by omega, by omega, fun e => by have := hl2 k e.symm; omega⟩) hR1 (Below.refl _ _) (by omega) (by rw [List.length_take]; omega) ?_
          intro v1 w2 hR2 hB2 hg2 hat
          obtain ⟨E7, e7, rfl⟩ := Kd.R_slice hR2
          have hlt2 : (ts.take i ++ [t]).length = i + 1 := by rw [List.length_append, List.length_take]; simp; omega
          rw [hlt2] at hR2 hat ⊢
          have kq1 := (b6.block q hqx).trans HXQ.out
          have k01 := (b6.block T0 (by omega)).trans HX0.out
          have nq : some q ≠ (Value.slice A7 i c7).ownBlock := fun e => (HXR.out.1 q e.symm).2.1 rfl
          have n0 : some T0 ≠ (Value.slice A7 i c7).ownBlock := fun e => by have := (HXR.out.1 T0 e.symm).1; omega
          have kq2 := Mem.blk_grown kq1 hg2 nq
          have k02 := Mem.blk_grown k01 hg2 n0
          have z' : w2.cell? ⟨q, 7, none⟩ = some (.slice A7 i c7) := (blk_cell kq2 7).trans rfl
          have fz := blk_frozen kq2 7
          have hown2 : w2.ownsRow (T0 + 1) 21 1 (.slice A2 rs.length c2) rs.length (rs.map (Value.int .i32)) := own_move hown fun k hk =>
            (hg2.block k (by have := hl2 k hk; omega) (fun e => (HXR.out.1 k e.symm).2.2 hk.symm)).trans (b6.block k (hl2 k hk))
          refine hK _ _ ⟨z', ?_⟩
          clear hK K'
          have HKQ2 := Lib.hid (blk_put kq2 7 (.slice E7 (i + 1) e7) rfl)
          have HK02 := Lib.hid ((far1 w2 (g := q) (k := T0) (by omega) 7 (.slice E7 (i + 1) e7)).trans k02)
          have HOW2 := Lib.hid (ownsRow_setCell_other hown2 (a := ⟨q, 7, none⟩) (fun e => by
            have := own_typed hown2 q e
            obtain ⟨cs', hcs'⟩ := this
            rw [kq2] at hcs'
            injection hcs' with h1
            injection h1 with h2 h3
            exact absurd h3 (by decide)) (.slice E7 (i + 1) e7))
          have HR2 := Lib.hid (Kd.R_far (p := ⟨q, 7, none⟩) hR2 (fun k hk => hk.2.1) (.slice E7 (i + 1) e7))
          have HBN := Lib.hid (((HB.out.trans (b6.mono (by omega))).grown hg2 (by omega) (fun k hk => by have := (HXR.out.1 k hk).1; omega)).setCell (p := ⟨q, 7, none⟩) (by simp; omega) (.slice E7 (i + 1) e7))
          have hsN : q < (w2.setCell ⟨q, 7, none⟩ (.slice E7 (i + 1) e7)).heap.size := by have := hg2.size; simp [World.setCell] at this ⊢; omega
          clear hR2 hB2 hg2 hat kq1 k01 k02 nq n0 hown2 hown hR1 hS7 hb6 b6 hM6 hlw hl2 hlt2 z
          go_wp2_with fail
          refine NoPanic.normal ?_
          go_wp2
          go_roundg g'
          case rel => exact ⟨i + 1, E7, e7, by go_num, by omega, HBN.out, hsN, HK02.out, HKQ2.out, HOW2.out, by rw [HTI2.out]; exact HR2.out, by rw [HD1.out]; exact HF1.out, by rw [HD1.out]; have := HN1.out; omega, by omega⟩
          case measure => omega
        · obtain rfl : i = ts.length := by omega
          have d0 := (blk_cell HXQ.out 0).trans rfl
          have d1 := (blk_cell HXQ.out 1).trans rfl
          have d2 := (blk_cell HXQ.out 2).trans rfl
          have d3 := (blk_cell HXQ.out 3).trans rfl
          have d4 := (blk_cell HXQ.out 4).trans rfl
          have d5 := (blk_cell HXQ.out 5).trans rfl
          have d6 := (blk_cell HXQ.out 6).trans rfl
          have d7 := (blk_cell HXQ.out 7).trans rfl
          have e0 := (blk_cell HX0.out 0).trans rfl
          have e1 := (blk_cell HX0.out 1).trans rfl
          have e2 := (blk_cell HX0.out 2).trans rfl
          have e3 := (blk_cell HX0.out 3).trans rfl
          have e4 := (blk_cell HX0.out 4).trans rfl
          have e5 := (blk_cell HX0.out 5).trans rfl
          have e6 := (blk_cell HX0.out 6).trans rfl
          have e7 := (blk_cell HX0.out 7).trans rfl
          have f0 := blk_frozen HX0.out 0
          have f1 := blk_frozen HX0.out 1
          have f2 := blk_frozen HX0.out 2
          have f3 := blk_frozen HX0.out 3
          have f4 := blk_frozen HX0.out 4
          have f5 := blk_frozen HX0.out 5
          have f6 := blk_frozen HX0.out 6
          have f7 := blk_frozen HX0.out 7
          clear hxf hxn hg
          have HA0 := Lib.hid (w8_blk HX0.out (.int .i64 op) (.int .i64 fl) (.slice A2 rs.length c2) (.int .i64 m0) (.int .i64 m1) (.int .i64 cp) (.string nm) (.slice A7 ts.length c7))
          have HBA := Lib.hid (w8_below HB.out (Nat.le_refl _) (.int .i64 op) (.int .i64 fl) (.slice A2 rs.length c2) (.int .i64 m0) (.int .i64 m1) (.int .i64 cp) (.string nm) (.slice A7 ts.length c7))
          have HF := Lib.hid (fun k (hk : k ≠ T0) => w8_far wr hk (.int .i64 op) (.int .i64 fl) (.slice A2 rs.length c2) (.int .i64 m0) (.int .i64 m1) (.int .i64 cp) (.string nm) (.slice A7 ts.length c7))
          go_wp2
          have a0 := (blk_cell HA0.out 0).trans rfl
          have a1 := (blk_cell HA0.out 1).trans rfl
          have a2 := (blk_cell HA0.out 2).trans rfl
          have a3 := (blk_cell HA0.out 3).trans rfl
          have a4 := (blk_cell HA0.out 4).trans rfl
          have a5 := (blk_cell HA0.out 5).trans rfl
          have a6 := (blk_cell HA0.out 6).trans rfl
          have a7 := (blk_cell HA0.out 7).trans rfl
          refine bodyPost_ret (v := .agg #[.int .i64 op, .int .i64 fl, .slice A2 rs.length c2, .int .i64 m0, .int .i64 m1, .int .i64 cp, .string nm, .slice A7 ts.length c7]) (by simp [results, Try.results31, go_sem, a0, a1, a2, a3, a4, a5, a6, a7]) rfl ?_
          rw [hT0]
          have hr := HXR.out
          rw [List.take_length] at hr
          refine ⟨_, rfl, HBA.out, k35_mkM _ T0 _ ⟨op, fl, rs, m0, m1, cp, nm, ts⟩ (v2 := .slice A2 rs.length c2) (v7 := .slice A7 ts.length c7) ?_ ?_⟩
          · exact Kd.R_of_own (own_move (own_weaken HXO.out (by omega)) fun k hk => HF.out k (fun e => by have := (HXO.out.lt k hk).1; omega)) (fun k hk => by have := (HXO.out.lt k hk).1; omega)
          · exact Kd.R_mono (Kd.R_step (Kd.R_lower hr (by omega)) (fun k hk _ => HF.out k (by have := hk.1; omega))) (fun k hk => by have := hk.1; omega)
end Go.Proofs.Ytholpemmakdglaa.PFnSySimplifyTwice
namespace Go.Proofs.Ytholpemmakdglaa.PFnSySimplifyTwice
open Go.RowKit Go.Proofs.YtholpemmakdglaaW.PrintWords Go.Proofs.YtholpemmakdglaaW.PrintLast Go.Proofs.YtholpemmakdglaaW.PrintMore
set_option linter.unusedVariables false
def isPtr (v : Value) : Prop := ∃ p, v = .pointer p
theorem isPtr.one {v : Value} (h : isPtr v) : v.oneCell' = true := by obtain ⟨p, rfl⟩ := h; rfl
section
variable (w : World)
theorem rg_info : ∃ j : TypeInfo, Try.prog.info? 69 = some j ∧ j.size ≠ 0 := ⟨_, rfl, by decide⟩
theorem eql_same (s : Nat) : (binOp .eql 46 (.pointer (some ⟨s, 0, none⟩)) (.pointer (some ⟨s, 0, none⟩))).run Try.prog w = .ok (.bool true) w := by
  obtain ⟨j, hj, _⟩ := rg_info
  exact run_eql_ptr_same w _ Try.underlying46 hj
theorem eql_other {s c : Nat} {cs cc : Array Value} {ts tc : TypeId} (hs : w.heap[s]? = some (.cells cs ts (0, 0))) (hc : w.heap[c]? = some (.cells cc tc (0, 0))) (hne : s ≠ c) : (binOp .eql 46 (.pointer (some ⟨s, 0, none⟩)) (.pointer (some ⟨c, 0, none⟩))).run Try.prog w = .ok (.bool false) w := by
  obtain ⟨j, hj, hjs⟩ := rg_info
  exact run_eql_ptr_other w Try.underlying46 hj hjs (fun e => hne (by injection e)) hs hc
theorem neq_same (s : Nat) : (binOp .neq 46 (.pointer (some ⟨s, 0, none⟩)) (.pointer (some ⟨s, 0, none⟩))).run Try.prog w = .ok (.bool false) w := by
  obtain ⟨j, hj, _⟩ := rg_info
  have h : ∀ d : Nat, (Op.equalIn (d + 1) 46 (.pointer (some ⟨s, 0, none⟩)) (.pointer (some ⟨s, 0, none⟩))).run Try.prog w = .ok true w := fun d => by
    simp [Op.equalIn, run_underlying Try.underlying46, sizeOf, typeInfo, hj, run_sameAddr_same]
  simp only [binOp]
  simp [Op.equal, Op.maxDepth, h 9999]
theorem neq_other {s c : Nat} {cs cc : Array Value} {ts tc : TypeId} (hs : w.heap[s]? = some (.cells cs ts (0, 0))) (hc : w.heap[c]? = some (.cells cc tc (0, 0))) (hne : s ≠ c) : (binOp .neq 46 (.pointer (some ⟨s, 0, none⟩)) (.pointer (some ⟨c, 0, none⟩))).run Try.prog w = .ok (.bool true) w := by
  obtain ⟨j, hj, hjs⟩ := rg_info
  have h : ∀ d : Nat, (Op.equalIn (d + 1) 46 (.pointer (some ⟨s, 0, none⟩)) (.pointer (some ⟨c, 0, none⟩))).run Try.prog w = .ok false w := fun d => by
    simp [Op.equalIn, run_underlying Try.underlying46, sizeOf, typeInfo, hj, hjs, run_sameAddr_other w (a := ⟨s, 0, none⟩) (b := ⟨c, 0, none⟩) (fun e => hne (by injection e)) hs hc]
  simp only [binOp]
  simp [Op.equal, Op.maxDepth, h 9999]
end
abbrev ndC (op fl : Int) (v u vR : Value) (m0 m1 cp : Int) (nm : ByteArray) : Array Value :=
  #[.int .u8 op, .int .u16 fl, v, u, vR, .int .i32 0, .int .i32 0, .int .i64 m0, .int .i64 m1, .int .i64 cp, .string nm]
/-- Where the row of a node's parts lies: within the node (block b, whose cell 3 is u), or in a block of its own. -/
def Lies (w : World) (T b : Nat) (u v : Value) (us : List Value) : Prop :=
  (v = .slice (some ⟨b, 3, none⟩) us.length 1 ∧ (us = [] ∨ us = [u])) ∨ (w.ownsRow T 46 1 v us.length us ∧ some b ≠ v.ownBlock)
theorem Lies.form {w : World} {T b : Nat} {u v : Value} {us : List Value} (h : Lies w T b u v us) : ∃ A c, v = .slice A us.length c := by
  rcases h with ⟨rfl, _⟩ | ⟨h, _⟩
  · exact ⟨_, _, rfl⟩
  · exact own_slice h
theorem Lies.base {w : World} {T b : Nat} {u v : Value} {us : List Value} (h : Lies w T b u v us) (hb : T ≤ b) {k : Nat} (hk : v.ownBlock = some k) : T ≤ k := by
  rcases h with ⟨rfl, _⟩ | ⟨h, _⟩
  · have : b = k := by simpa [Value.ownBlock] using hk
    omega
  · exact (h.lt k hk).1
theorem Lies.lt {w : World} {T b : Nat} {u v : Value} {us : List Value} (h : Lies w T b u v us) (hb : b < w.heap.size) {k : Nat} (hk : v.ownBlock = some k) : k < w.heap.size := by
  rcases h with ⟨rfl, _⟩ | ⟨h, _⟩
  · have : b = k := by simpa [Value.ownBlock] using hk
    omega
  · exact (h.lt k hk).2
theorem Lies.move {w w1 : World} {T b : Nat} {u v : Value} {us : List Value} (h : Lies w T b u v us) (hm : ∀ k, v.ownBlock = some k → k ≠ b → w1.heap[k]? = w.heap[k]?) : Lies w1 T b u v us := by
  rcases h with ⟨rfl, h⟩ | ⟨h, hn⟩
  · exact .inl ⟨rfl, h⟩
  · exact .inr ⟨own_move h fun k hk => hm k hk fun e => hn (by rw [hk, e]), hn⟩
section
variable {w : World}
theorem run_grow (ty : TypeId) {T b m c : Nat} {u v : Value} {us news : List Value} {cs : Array Value} {tb : TypeId} (hL : Lies w T b u v us) (hT : T ≤ b) (hk : w.heap[b]? = some (.cells cs tb (0, 0))) (h3 : cs[3]? = some u) (hu : isPtr u)
    (a : Addr) (hl : news.length = m) (hnews : ∀ j x, news[j]? = some x → w.cell? (a.add j) = some x) (h1 : ∀ x ∈ news, isPtr x) (hm : 0 < m) (hmax : us.length + m ≤ 1000000) :
    ∃ v' w' u', (Builtin.append_ #[65, 65] ty #[v, .slice (some a) m c]).run Try.prog w = .ok v' w' ∧ w'.heap[b]? = some (.cells (cs.setIfInBounds 3 u') tb (0, 0)) ∧ isPtr u' ∧ Lies w' T b u' v' (us ++ news) ∧
      w.heap.size ≤ w'.heap.size ∧ (∀ k, k < w.heap.size → k ≠ b → some k ≠ v.ownBlock → w'.heap[k]? = w.heap[k]?) ∧ (∀ w0, Below T w0 w → Below T w0 w') ∧ (v'.ownBlock = v.ownBlock ∨ v'.ownBlock = some w.heap.size) := by
  have hbl : b < w.heap.size := lt_of_block hk
  have hi : (Try.prog.info? 46).map (fun i => (i.zero, i.size, i.bytes)) = some (some (.pointer none), 1, 8) := by kernel_rfl
  obtain ⟨i0, hi0, hz0, hz1, hz2⟩ := info_parts hi
  have ht := Try.underlying65
  have hset : cs.setIfInBounds 3 u = cs := by
    obtain ⟨hlt, he⟩ := Array.getElem?_eq_some_iff.1 h3
    rw [Array.setIfInBounds, dif_pos hlt, ← he, Array.set_getElem_self]
  rcases hL with ⟨rfl, hus⟩ | ⟨hown, hne⟩
  · by_cases hroom : us.length + m ≤ 1
    · have hm1 : m = 1 := by omega
      have hu0 : us = [] := List.length_eq_zero_iff.1 (by omega)
      subst hm1 hu0
      obtain ⟨x, rfl⟩ : ∃ x, news = [x] := by
        match news, hl with
        | [x], _ => exact ⟨x, rfl⟩
      have hf := run_firstCells_some (P := Try.prog) w i0.size 1 a 1 c [x] (by simp [hz1]) hnews
      have hx := h1 x (by simp)
      have hst : (storeCells ⟨b, 3, none⟩ [x] 0).run Try.prog w = .ok () (w.setCell ⟨b, 3, none⟩ x) := by
        have hcell : w.cell? ⟨b, 3, none⟩ = some u := (cell_of_row w b 3 cs tb (0, 0) hk).trans h3
        have hfro : w.frozen? ⟨b, 3, none⟩ = false := blk_frozen hk 3
        have h0 : (store ((⟨b, 3, none⟩ : Addr).add 0) x).run Try.prog w = .ok () (w.setCell ⟨b, 3, none⟩ x) := by
          rw [Addr.add_lit, Nat.add_zero, run_store _ w _ x _ hx.one, hcell]
          simp [hfro]
        simp only [storeCells, Sem.run_bind, h0, Result.andThen_ok]
        rfl
      refine ⟨.slice (some ⟨b, 3, none⟩) 1 1, w.setCell ⟨b, 3, none⟩ x, x, ?_, blk_put hk 3 x rfl, hx, .inl ⟨rfl, .inr rfl⟩, by simp [World.setCell], fun k hk hkb _ => far1 w hkb 3 x, fun w0 h0 => h0.setCell hT x, .inl rfl⟩
      simp [Builtin.append_, run_underlying ht, sizeOf, typeInfo, hi0, Builtin.lenOf, hf, Addr.add_lit, hst]
    · have hr := run_append_grow (P := Try.prog) w 65 ty 46 i0 (.pointer none) ht hi0 hz0 ⟨b, 3, none⟩ us.length 1 us (by rw [hz1]; omega) (by
          intro j x hj
          rcases hus with rfl | rfl
          · simp at hj
          · cases j with
            | zero => simp at hj; subst hj; rw [Addr.add_lit, cell_of_row w b 3 cs tb (0, 0) hk]; exact h3
            | succ j => simp at hj) a m c news (by rw [hz1]; omega) hnews (by omega) (by omega) (growslice_fits (by omega) (by rw [hz2]; omega))
      refine ⟨_, _, u, hr, ?_, hu, .inr ⟨?_, ?_⟩, by simp, fun k hk _ _ => Below.heap_alloc _ _ _ hk, fun w0 h0 => ?_, .inr rfl⟩
      · rw [hset]; exact Mem.blk_old hk _
      · have hge := grownCap_ge w (us.length + m) 1 46
        have hcm : grownCap w (us.length + m) 1 46 ≤ maxLen := grownCap_le_maxLen w (us.length + m) 1 46 (by unfold maxLen; omega)
        have hlen : (us ++ news).length = us.length + m := by simp; omega
        rw [hlen]
        refine ⟨by omega, .inr ⟨w.heap.size, _, _, rfl, by omega, Mem.blk_new w.drew _, hge, hcm, ?_, ?_⟩⟩
        · simp only [Array.size_append, List.size_toArray, size_zeroCells, hl]
          show us.length + m + (grownCap w (us.length + m) 1 46 - (us.length + m)) * 1 = _
          omega
        · simp only [Array.toList_append, List.append_assoc]
          rw [← List.append_assoc, Nat.mul_one, ← hlen]
          exact List.take_left
      · simp [Value.ownBlock]; omega
      · have hd : Below T w0 w.drew := ⟨h0.os, h0.tape, h0.output, h0.size, h0.block⟩
        exact hd.alloc (show T ≤ w.heap.size by omega) _
  · obtain ⟨v', w', hr, h2, h3', _, h5⟩ := run_append_own_at (P := Try.prog) w T 65 ty 46 i0 (.pointer none) 1 8 ht hi0 hz0 hz1 hz2 rfl (by omega) v us.length us hown a m c news (by omega) hnews (fun x hx => (h1 x hx).one) (by unfold maxLen; omega) (by omega) (by omega)
    refine ⟨v', w', u, hr, ?_, hu, .inr ⟨?_, ?_⟩, h3'.size, fun k hk _ hn => h3'.block k hk hn, fun w0 h0 => h0.grown h3' (by omega) fun k hk => (hown.lt k hk).1, h5⟩
    · rw [hset]; exact Mem.blk_grown hk h3' hne
    · have : (us ++ news).length = us.length + m := by simp; omega
      rw [this]; exact h2
    · rcases h5 with h | h <;> rw [h]
      · exact hne
      · intro e; injection e with e; omega
theorem wp_grow_op {o : Oper} {ac : Act} {Q : Exit → Act → World → Prop} {K : Act → World → Prop} (s x : Operand)
    (ho : o.op = .call { callee := .builtin .append, args := #[s, x], argTypes := #[65, 65] })
    {T b m c : Nat} {u v : Value} {us news : List Value} {cs : Array Value} {tb : TypeId} (hL : Lies w T b u v us) (hT : T ≤ b) (hk : w.heap[b]? = some (.cells cs tb (0, 0))) (h3 : cs[3]? = some u) (hu : isPtr u)
    (hs : ac.eval s = v) (a : Addr) (hx : ac.eval x = .slice (some a) m c) (hl : news.length = m) (hnews : ∀ j x, news[j]? = some x → w.cell? (a.add j) = some x) (h1 : ∀ x ∈ news, isPtr x) (hm : 0 < m) (hmax : us.length + m ≤ 1000000)
    (h : ∀ v' w' u', w'.heap[b]? = some (.cells (cs.setIfInBounds 3 u') tb (0, 0)) → isPtr u' → Lies w' T b u' v' (us ++ news) →
      w.heap.size ≤ w'.heap.size → (∀ k, k < w.heap.size → k ≠ b → some k ≠ v.ownBlock → w'.heap[k]? = w.heap[k]?) → (∀ w0, Below T w0 w → Below T w0 w') → (v'.ownBlock = v.ownBlock ∨ v'.ownBlock = some w.heap.size) → K (ac.put o.dst v') w') :
    Oper.wp Try.prog o ac w K Q := by
  obtain ⟨v', w', u', hr, h2, h3', h4, h5, h6, h7, h8⟩ := run_grow o.type hL hT hk h3 hu a hl hnews h1 hm hmax (c := c)
  unfold Oper.wp execOp
  simp only [ho, resolve, invoke, builtin, Sem.run_bind, Sem.run_pure, Result.andThen_ok, List.map_toArray, List.map_cons, List.map_nil, hs, hx, hr]
  exact h v' w' u' h2 h3' h4 h5 h6 h7 h8
/-- A row of a node's parts, read. -/
theorem Lies.crow {T b : Nat} {u v : Value} {us : List Value} {cs : Array Value} {tb : TypeId} {ok : Nat → Prop} (h : Lies w T b u v us) (hk : w.heap[b]? = some (.cells cs tb (0, 0))) (h3 : cs[3]? = some u) (hok : ∀ k, v.ownBlock = some k → ok k) : CRow w ok v us := by
  rcases h with ⟨rfl, hus⟩ | ⟨h, _⟩
  · refine ⟨_, 1, rfl, ?_, by simp [maxLen], fun h0 => ⟨b, 3, rfl, hok b rfl, fun j x hj => ?_⟩⟩
    · rcases hus with rfl | rfl <;> simp
    · rcases hus with rfl | rfl
      · simp at hj
      · cases j with
        | zero => simp at hj; subst hj; exact (cell_of_row w b 3 cs tb (0, 0) hk).trans h3
        | succ j => simp at hj
  · exact CRow.own h hok
/-- The same in a walk: 'append(v, x..)' in text order. -/
theorem wp_grow {ops : Array Oper} {rest : List Oper} {o : Oper} {ac : Act} {Q : Exit → Act → World → Prop} (hgd : o.guard = none) (s x : Operand)
    (ho : o.op = .call { callee := .builtin .append, args := #[s, x], argTypes := #[65, 65] })
    {T b m c : Nat} {u v : Value} {us news : List Value} {cs : Array Value} {tb : TypeId} (hL : Lies w T b u v us) (hT : T ≤ b) (hk : w.heap[b]? = some (.cells cs tb (0, 0))) (h3 : cs[3]? = some u) (hu : isPtr u)
    (hs : ac.eval s = v) (a : Addr) (hx : ac.eval x = .slice (some a) m c) (hl : news.length = m) (hnews : ∀ j x, news[j]? = some x → w.cell? (a.add j) = some x) (h1 : ∀ x ∈ news, isPtr x) (hm : 0 < m) (hmax : us.length + m ≤ 1000000)
    (h : ∀ v' w' u', w'.heap[b]? = some (.cells (cs.setIfInBounds 3 u') tb (0, 0)) → isPtr u' → Lies w' T b u' v' (us ++ news) →
      w.heap.size ≤ w'.heap.size → (∀ k, k < w.heap.size → k ≠ b → some k ≠ v.ownBlock → w'.heap[k]? = w.heap[k]?) → (∀ w0, Below T w0 w → Below T w0 w') → (v'.ownBlock = v.ownBlock ∨ v'.ownBlock = some w.heap.size) → wpList Try.prog ops Q rest (ac.put o.dst v') w') :
    wpList Try.prog ops Q (o :: rest) ac w := by
  obtain ⟨v', w', u', hr, h2, h3', h4, h5, h6, h7, h8⟩ := run_grow o.type hL hT hk h3 hu a hl hnews h1 hm hmax (c := c)
  refine wpList_plain hgd fun K hK => ?_
  unfold Oper.wp execOp
  simp only [ho, resolve, invoke, builtin, Sem.run_bind, Sem.run_pure, Result.andThen_ok, List.map_toArray, List.map_cons, List.map_nil, hs, hx, hr]
  exact hK _ _ (h v' w' u' h2 h3' h4 h5 h6 h7 h8)
end
end Go.Proofs.Ytholpemmakdglaa.PFnSySimplifyTwice
