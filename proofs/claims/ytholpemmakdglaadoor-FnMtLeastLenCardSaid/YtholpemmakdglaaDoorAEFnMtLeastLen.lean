/- A tree of the package, built by the thin package: which blocks it lies in, and what stays. The thin package builds a tree of the package. As XK35's opening, with what the tree's lists take up. The thin package makes a tree of the package out of data. -/
import Derived.Test.YtholpemmakdglaaDoorADFnMtLeastLen
import Derived.Test.YtholpemmakdglaaDoorAA
import Derived.Maps.AppendAt
import Derived.Deep.Upon
import Derived.ChangeSlices
import Derived.DataReads
import Derived.OpenShut
import Derived.Deep.Slices
namespace Go.Proofs.YtholpemmakdglaaDoor.PFnMtLeastLen
open Go.RowKit Go.Proofs.YtholpemmakdglaaDoorW.PrintWords Go.Proofs.YtholpemmakdglaaDoorW.PrintLast Go.Proofs.YtholpemmakdglaaDoorW.PrintMore
set_option linter.unusedVariables false
abbrev ptrs (bs : List Nat) : List Value := bs.map fun b => .pointer (some ⟨b, 0, none⟩)
/-- The cells of a node. -/
abbrev rgCells (op fl : Int) (vS vR : Value) (m0 m1 cp : Int) (nm : ByteArray) : Array Value :=
  #[.int .u8 op, .int .u16 (IntKind.u16.wrap fl), vS, .pointer none, vR, .int .i32 0, .int .i32 0, .int .i64 m0, .int .i64 m1, .int .i64 cp, .string nm]
mutual
def RgT (w : World) (ok : Nat → Prop) : Nat → Tr → Prop
  | b, ⟨op, fl, rs, m0, m1, cp, nm, ts⟩ => ok b ∧ ∃ vS vR bs, w.heap[b]? = some (.cells (rgCells op fl vS vR m0 m1 cp nm) 116 (0, 0)) ∧
      (∀ k, vR.ownBlock = some k → ok k) ∧ w.ownsRow 0 21 1 vR rs.length (rs.map (Value.int .i32)) ∧
      (∀ k, vS.ownBlock = some k → ok k) ∧ w.ownsRow 0 62 1 vS ts.length (ptrs bs) ∧ RgL w (fun k => ok k ∧ k ≠ b) bs ts
def RgL (w : World) (ok : Nat → Prop) : List Nat → List Tr → Prop
  | bs, [] => bs = []
  | bs, t :: ts => ∃ b bs', bs = b :: bs' ∧ RgT w ok b t ∧ RgL w ok bs' ts
end
theorem own_blk {w : World} {base : Nat} {e : TypeId} {v : Value} {n : Nat} {xs : List Value} (h : w.ownsRow base e 1 v n xs) {k : Nat} (hk : v.ownBlock = some k) : k < w.heap.size := (h.lt k hk).2
mutual
theorem rgT_move {w w1 : World} {ok ok' : Nat → Prop} (hm : ∀ k, ok k → k < w.heap.size → w1.heap[k]? = w.heap[k]? ∧ ok' k) : ∀ (t : Tr) (b : Nat), RgT w ok b t → RgT w1 ok' b t
  | ⟨op, fl, rs, m0, m1, cp, nm, ts⟩, b, h => by
    rw [RgT] at h ⊢
    obtain ⟨hb, vS, vR, bs, h0, hR, oR, hS, oS, hL⟩ := h
    have hbm := hm b hb (lt_of_block h0)
    exact ⟨hbm.2, vS, vR, bs, hbm.1.trans h0, fun k hk => (hm k (hR k hk) (own_blk oR hk)).2, own_move oR fun k hk => (hm k (hR k hk) (own_blk oR hk)).1,
      fun k hk => (hm k (hS k hk) (own_blk oS hk)).2, own_move oS fun k hk => (hm k (hS k hk) (own_blk oS hk)).1, rgL_move (fun k hk hlt => ⟨(hm k hk.1 hlt).1, (hm k hk.1 hlt).2, hk.2⟩) ts bs hL⟩
theorem rgL_move {w w1 : World} {ok ok' : Nat → Prop} (hm : ∀ k, ok k → k < w.heap.size → w1.heap[k]? = w.heap[k]? ∧ ok' k) : ∀ (ts : List Tr) (bs : List Nat), RgL w ok bs ts → RgL w1 ok' bs ts
  | [], bs, h => by rw [RgL] at h ⊢; exact h
  | t :: ts, bs, h => by
    rw [RgL] at h ⊢
    obtain ⟨b, bs', rfl, h1, h2⟩ := h
    exact ⟨b, bs', rfl, rgT_move hm t b h1, rgL_move hm ts bs' h2⟩
end
theorem rgL_snoc {w : World} {ok : Nat → Prop} {b : Nat} {t : Tr} (ht : RgT w ok b t) : ∀ (ts : List Tr) (bs : List Nat), RgL w ok bs ts → RgL w ok (bs ++ [b]) (ts ++ [t])
  | [], bs, h => by rw [RgL] at h; subst h; rw [List.nil_append, List.nil_append, RgL]; exact ⟨b, [], rfl, ht, by rw [RgL]⟩
  | t' :: ts, bs, h => by
    rw [RgL] at h
    obtain ⟨b', bs', rfl, h1, h2⟩ := h
    rw [List.cons_append, List.cons_append, RgL]
    exact ⟨b', bs' ++ [b], rfl, h1, rgL_snoc ht ts bs' h2⟩
theorem rgL_len {w : World} {ok : Nat → Prop} : ∀ (ts : List Tr) (bs : List Nat), RgL w ok bs ts → bs.length = ts.length
  | [], bs, h => by rw [RgL] at h; subst h; rfl
  | t :: ts, bs, h => by
    rw [RgL] at h
    obtain ⟨b, bs', rfl, h1, h2⟩ := h
    simp [rgL_len ts bs' h2]
theorem rgL_get {w : World} {ok : Nat → Prop} : ∀ (ts : List Tr) (bs : List Nat) (i : Nat) (t : Tr), RgL w ok bs ts → ts[i]? = some t → ∃ b, bs[i]? = some b ∧ RgT w ok b t
  | [], bs, i, t, h, hi => by simp at hi
  | t' :: ts, bs, i, t, h, hi => by
    rw [RgL] at h
    obtain ⟨b, bs', rfl, h1, h2⟩ := h
    cases i with
    | zero => simp at hi; subst hi; exact ⟨b, rfl, h1⟩
    | succ i =>
      obtain ⟨b', hb, hr⟩ := rgL_get ts bs' i t h2 (by simpa using hi)
      exact ⟨b', by simpa using hb, hr⟩
theorem own_slice {w : World} {base : Nat} {e : TypeId} {v : Value} {n : Nat} {xs : List Value} (h : w.ownsRow base e 1 v n xs) : ∃ A c, v = .slice A n c := by
  rcases h.2 with ⟨rfl, rfl⟩ | ⟨g, cap, cur, rfl, _⟩
  · exact ⟨none, 0, rfl⟩
  · exact ⟨_, _, rfl⟩
/-- Every list of a tree takes up few bytes. -/
def Room (n k : Nat) : Prop := n * k ≤ 140737488355328
mutual
def szT : Tr → Prop
  | ⟨_, _, rs, _, _, _, _, ts⟩ => Room rs.length 4 ∧ Room ts.length 8 ∧ szL ts
def szL : List Tr → Prop
  | [] => True
  | t :: ts => szT t ∧ szL ts
end
mutual
/-- All operations of a tree's nodes are small. -/
def opT : Tr → Prop
  | ⟨op, _, _, _, _, _, _, ts⟩ => 0 ≤ op ∧ op ≤ 255 ∧ opL ts
def opL : List Tr → Prop
  | [] => True
  | t :: ts => opT t ∧ opL ts
end
section
variable {P : Program} {w : World}
/-- 'append(v, u)', v a row of the call's own whose elements are one cell each: where the new row lies is told. -/
theorem wp_app1_op {o : Oper} {a : Act} {Q : Exit → Act → World → Prop} {K : Act → World → Prop} (s x : Operand) (t : TypeId)
    (ho : o.op = .call { callee := .builtin .append, args := #[s, x], argTypes := #[t, t] })
    (base : Nat) (e : TypeId) (z : Value) (bytes : Nat) (ht : P.underlying t = some (.slice e)) (hi : (P.info? e).map (fun i => (i.zero, i.size, i.bytes)) = some (some z, 1, bytes))
    (hzs : z.cells.size = 1) (v : Value) (n : Nat) (xs : List Value) (hs : a.eval s = v) (hown : w.ownsRow base e 1 v n xs) (u : Value) (h1 : u.oneCell' = true)
    (hx : a.eval x = .slice (some ⟨w.heap.size, 0, none⟩) 1 1)
    (h63 : n + 1 ≤ maxLen) (hbytes : (n + 1) * bytes ≤ 140737488355328) (hbase : base ≤ w.heap.size)
    (h : ∀ v' w', w'.ownsRow base e 1 v' (n + 1) (xs ++ [u]) → (w.alloc (.cells #[u] e)).grownBy w' v.ownBlock → (v'.ownBlock = v.ownBlock ∨ v'.ownBlock = some (w.heap.size + 1)) → K (a.put o.dst v') w') :
    Oper.wp P o a (w.alloc (.cells #[u] e)) K Q := by
  obtain ⟨i0, hi0, hz0, hz1, hz2⟩ := info_parts hi
  obtain ⟨v', w', hr, ho', hg, _, hat⟩ := run_append_own_at (P := P) (w.alloc (.cells #[u] e)) base t o.type e i0 z 1 bytes ht hi0 hz0 hz1 hz2 hzs (by omega) v n xs (hown.alloc _) ⟨w.heap.size, 0, none⟩ 1 1 [u] rfl (by
    intro j u' hj
    cases j with
    | zero =>
      simp at hj
      subst hj
      have : (⟨w.heap.size, 0, none⟩ : Addr).add 0 = ⟨w.heap.size, 0, none⟩ := by simp [Addr.add]
      rw [this]
      simp
    | succ j => simp at hj) (by simpa using h1) h63 hbytes (by simp; omega)
  unfold Oper.wp execOp
  simp only [ho, resolve, invoke, builtin, Sem.run_bind, Sem.run_pure, Result.andThen_ok, List.map_toArray, List.map_cons, List.map_nil, hs, hx, hr]
  exact h v' w' ho' hg (by simpa using hat)
/-- 'append([]int32(nil), x...)', x read: a copy in a row of the call's own. -/
theorem wp_copy {ops : Array Oper} {rest : List Oper} {o : Oper} {a : Act} {Q : Exit → Act → World → Prop} (hgd : o.guard = none) (x : Operand) (t : TypeId)
    (ho : o.op = .call { callee := .builtin .append, args := #[.const (.slice none 0 0), x], argTypes := #[t, t] })
    (base : Nat) (e : TypeId) (bytes : Nat) (ht : P.underlying t = some (.slice e)) (hi : (P.info? e).map (fun i => (i.zero, i.size, i.bytes)) = some (some (.int .i32 0), 1, bytes))
    (A : Option Addr) (zs : List Int) (cap : Nat) (hx : a.eval x = .slice A zs.length cap) (hz : (Kd.int .i32).C w A zs.length zs) (hbytes : Room zs.length bytes) (hbase : base ≤ w.heap.size)
    (h : ∀ v' w', w'.ownsRow base e 1 v' zs.length (zs.map (Value.int .i32)) → w.grownBy w' none → wpList P ops Q rest (a.put o.dst v') w') :
    wpList P ops Q (o :: rest) a w := by
  obtain ⟨i0, hi0, hz0, hz1, hz2⟩ := info_parts hi
  have he : a.eval (.const (.slice none 0 0)) = .slice none 0 0 := rfl
  have hrun : ∃ v' w', (Builtin.append_ #[t, t] o.type #[.slice none 0 0, .slice A zs.length cap]).run P w = .ok v' w' ∧ w'.ownsRow base e 1 v' zs.length (zs.map (Value.int .i32)) ∧ w.grownBy w' none := by
    by_cases h0 : zs.length = 0
    · have hzs : zs = [] := List.length_eq_zero_iff.mp h0
      subst hzs
      have hsrc : Src P i0.size t (.slice A 0 cap) 0 [] w := by
        cases A with
        | none => exact Src.ofNil w ht cap
        | some ad => exact Src.ofSlice w ht ad 0 cap [] (by simp) (by simp) (by simp)
      exact ⟨.slice none 0 0, w, run_append_nothing (P := P) w t t o.type e i0 ht hi0 none 0 0 (Nat.le_refl _) _ hsrc, World.ownsRow_nil _ _ _ _, ⟨rfl, rfl, rfl, Nat.le_refl _, fun _ _ _ => rfl⟩⟩
    · obtain ⟨ad, rfl, hc⟩ := hz.2.2 (by omega)
      have hm : zs.length ≤ maxLen := by have := hz.2.1; unfold maxLen; omega
      obtain ⟨v', w', hr, ho', hg, -⟩ := run_append_own (P := P) w base t o.type e i0 (.int .i32 0) 1 bytes ht hi0 hz0 hz1 hz2 rfl (by omega) (.slice none 0 0) 0 [] (World.ownsRow_nil _ _ _ _) ad zs.length cap (zs.map (Value.int .i32)) (by simp) (by
        intro j u hj
        obtain ⟨p, hp, rfl⟩ : ∃ p, zs[j]? = some p ∧ Value.int .i32 p = u := by simpa using hj
        obtain ⟨c, _, hR, hcc⟩ := hc j p hp
        have h1 := hcc 0 (Value.int .i32 p) (by rw [show c = [.int .i32 p] from hR]; rfl)
        rw [show (Kd.int .i32).sz = 1 from rfl, Nat.mul_one, Nat.add_zero] at h1
        exact h1) (by simp [Value.oneCell']) (by simpa using hm) (by unfold Room at hbytes; simpa using hbytes) hbase
      simp only [Nat.zero_add, List.nil_append] at ho'
      exact ⟨v', w', hr, ho', hg⟩
  obtain ⟨v', w', hr, h1, h2⟩ := hrun
  refine wpList_plain hgd fun K hK => ?_
  unfold Oper.wp execOp
  simp only [ho, resolve, invoke, builtin, Sem.run_bind, Sem.run_pure, Result.andThen_ok, List.map_toArray, List.map_cons, List.map_nil, he, hx, hr]
  exact hK _ _ (h v' w' h1 h2)
end
end Go.Proofs.YtholpemmakdglaaDoor.PFnMtLeastLen
namespace Go.Proofs.YtholpemmakdglaaDoor.PFnMtLeastLen
open Go.RowKit Go.Proofs.YtholpemmakdglaaDoorW.PrintWords Go.Proofs.YtholpemmakdglaaDoorW.PrintLast Go.Proofs.YtholpemmakdglaaDoorW.PrintMore
set_option linter.unusedVariables false
set_option linter.unusedSimpArgs false
set_option maxRecDepth 100000 in
set_option maxHeartbeats 4000000 in
theorem regexpOf_c : ∀ (N : Nat) (t : Tr) (A2 : Option Addr) (c2 : Nat) (A7 : Option Addr) (c7 : Nat) (w : World), ncT t ≤ N → wfT t → szT t → opT t →
    (Kd.int .i32).C w A2 t.f2.length t.f2 → t.f2.length ≤ c2 → k40.C w A7 t.f7.length t.f7 → t.f7.length ≤ c7 →
    Calls Tryd.prog 57 #[.agg #[.int .i64 t.f0, .int .i64 t.f1, .slice A2 t.f2.length c2, .int .i64 t.f3, .int .i64 t.f4, .int .i64 t.f5, .string t.f6, .slice A7 t.f7.length c7]] w fun e w' =>
      ∃ b, e = .returned (.pointer (some ⟨b, 0, none⟩)) ∧ Below w.heap.size w w' ∧ RgT w' (fun k => w.heap.size ≤ k) b t := by
  intro N
  induction N with
  | zero => intro t A2 c2 A7 c7 w hN; have := ncT_pos t; omega
  | succ N ih =>
    intro t A2 c2 A7 c7 w hN hwf hsz hop h2 hc2 h7 hc7
    obtain ⟨op, fl, rs, m0, m1, cp, nm, ts⟩ := t
    rw [wfT] at hwf
    rw [szT] at hsz
    rw [opT] at hop
    rw [ncT] at hN
    simp only at h2 hc2 h7 hc7
    have IH := Lib.hid ih
    clear ih
    have hwop : IntKind.u8.wrap op = op := by rw [IntKind.wrap_u8]; omega
    have hs0 : (w.alloc (.cells #[.int .i64 op, .int .i64 fl, .slice A2 rs.length c2, .int .i64 m0, .int .i64 m1, .int .i64 cp, .string nm, .slice A7 ts.length c7] 40)).heap.size = w.heap.size + 1 := by simp
    have hb1 : Below w.heap.size w ((w.alloc (.cells #[.int .i64 op, .int .i64 fl, .slice A2 rs.length c2, .int .i64 m0, .int .i64 m1, .int .i64 cp, .string nm, .slice A7 ts.length c7] 40)).alloc (.cells (rgCells op fl (.slice none 0 0) (.slice none 0 0) m0 m1 cp nm) 116)) := ((Below.refl _ _).alloc (Nat.le_refl _) _).alloc (by simp) _
    have k0 := Mem.blk_old (Mem.blk_new w (.cells #[.int .i64 op, .int .i64 fl, .slice A2 rs.length c2, .int .i64 m0, .int .i64 m1, .int .i64 cp, .string nm, .slice A7 ts.length c7] 40)) (.cells (rgCells op fl (.slice none 0 0) (.slice none 0 0) m0 m1 cp nm) 116)
    have k1 := Mem.blk_new (w.alloc (.cells #[.int .i64 op, .int .i64 fl, .slice A2 rs.length c2, .int .i64 m0, .int .i64 m1, .int .i64 cp, .string nm, .slice A7 ts.length c7] 40)) (.cells (rgCells op fl (.slice none 0 0) (.slice none 0 0) m0 m1 cp nm) 116)
    rw [hs0] at k1
    have hcells := blk_all w #[.int .i64 op, .int .i64 fl, .slice A2 rs.length c2, .int .i64 m0, .int .i64 m1, .int .i64 cp, .string nm, .slice A7 ts.length c7] 40 rfl
    have d0 := hcells 0 _ rfl
    have d1 := hcells 1 _ rfl
    have d2 := hcells 2 _ rfl
    have d3 := hcells 3 _ rfl
    have d4 := hcells 4 _ rfl
    have d5 := hcells 5 _ rfl
    have d6 := hcells 6 _ rfl
    have d7 := hcells 7 _ rfl
    clear hcells
    go_enter Tryd.func57, Tryd.ntmps57
    go_upto_region 2 with fail
    clear d0 d1 d2 d3 d4 d5 d6 d7
    have HB1 := Lib.hid hb1
    have hT1 : ((w.alloc (.cells #[.int .i64 op, .int .i64 fl, .slice A2 rs.length c2, .int .i64 m0, .int .i64 m1, .int .i64 cp, .string nm, .slice A7 ts.length c7] 40)).alloc (.cells (rgCells op fl (.slice none 0 0) (.slice none 0 0) m0 m1 cp nm) 116)).heap.size = w.heap.size + 2 := by simp
    have H2 := Lib.hid h2
    have H7 := Lib.hid h7
    clear hb1 hs0 h2 h7
    simp only [rgCells] at k0 k1 HB1 hT1
    generalize ((w.alloc (.cells #[.int .i64 op, .int .i64 fl, .slice A2 rs.length c2, .int .i64 m0, .int .i64 m1, .int .i64 cp, .string nm, .slice A7 ts.length c7] 40)).alloc (.cells #[.int .u8 op, .int .u16 (IntKind.u16.wrap fl), .slice none 0 0, .pointer none, .slice none 0 0, .int .i32 0, .int .i32 0, .int .i64 m0, .int .i64 m1, .int .i64 cp, .string nm] 116)) = W1 at *
    have HC2 := Lib.hid (Kd.C_below H2.out HB1.out)
    generalize hT0 : w.heap.size = T0 at *
    have e2 : W1.cell? ⟨T0, 2, none⟩ = some (.slice A2 rs.length c2) := (blk_cell k0 2).trans rfl
    have K0 := Lib.hid k0
    have K1 := Lib.hid k1
    clear k0 k1
    have HSZ := Lib.hid hsz
    clear hsz
    go_wp2_with (at_builtin; refine wp_copy rfl _ _ rfl (T0 + 2) 21 4 Tryd.underlying22 (by kernel_rfl) A2 rs c2 rfl HC2.out HSZ.out.1 (by omega) ?_; intro vR W2 oR gR; obtain ⟨AR, cR, rfl⟩ := own_slice oR; have k0 := Mem.blk_grown K0.out gR (by simp); have k1 := Mem.blk_grown K1.out gR (by simp); have f1 := blk_frozen k1 4; have f2 := (blk_cell k1 4).trans rfl; have f7 : W2.cell? ⟨T0, 7, none⟩ = some (.slice A7 ts.length c7) := (blk_cell k0 7).trans rfl)
    have B2 := HB1.out.grown gR (by omega) (by simp)
    have HB2 := Lib.hid (B2.setCell (p := ⟨T0 + 1, 4, none⟩) (by simp) (.slice AR rs.length cR))
    have n1 := Mem.own_apart oR k1 (by decide)
    have hs2 : T0 + 2 ≤ (W2.setCell ⟨T0 + 1, 4, none⟩ (.slice AR rs.length cR)).heap.size := by have := gR.size; simp [World.setCell]; omega
    have OR := Lib.hid (ownsRow_setCell_other oR (Ne.symm n1) (a := ⟨T0 + 1, 4, none⟩) (.slice AR rs.length cR))
    have BK := Lib.hid (blk_put k1 4 (.slice AR rs.length cR) rfl)
    clear B2 n1 k0 k1 f1 f2 f7 oR gR K0 K1 HC2 e2 hT1 HB1
    generalize W2.setCell ⟨T0 + 1, 4, none⟩ (.slice AR rs.length cR) = W3 at *
    have hl7 := H7.out.2.1
    have hfits : Fits ts.length := hl7
    have HSL := Lib.hid HSZ.out.2.2
    have HRM := Lib.hid HSZ.out.2.1
    have HWL := Lib.hid hwf.2.2
    have HOL := Lib.hid hop.2.2
    clear hwf hop HSZ hwop
    go_loopg [31] (ts.length + 1) (fun g s31 wx => ∃ (i : Nat) (bs : List Nat) (AS : Option Addr) (cS : Nat), s31 = .int .i64 i ∧ i ≤ ts.length ∧ Below T0 w wx ∧ T0 + 2 ≤ wx.heap.size ∧
        wx.heap[T0 + 1]? = some (.cells #[.int .u8 op, .int .u16 (IntKind.u16.wrap fl), .slice AS i cS, .pointer none, .slice AR rs.length cR, .int .i32 0, .int .i32 0, .int .i64 m0, .int .i64 m1, .int .i64 cp, .string nm] 116 (0, 0)) ∧
        wx.ownsRow (T0 + 2) 21 1 (.slice AR rs.length cR) rs.length (rs.map (Value.int .i32)) ∧ wx.ownsRow (T0 + 2) 62 1 (.slice AS i cS) i (ptrs bs) ∧
        RgL wx (fun k => T0 + 2 ≤ k ∧ some k ≠ (Value.slice AS i cS).ownBlock) bs (ts.take i) ∧ szL (ts.drop i) ∧ wfL (ts.drop i) ∧ opL (ts.drop i) ∧ ncL (ts.drop i) ≤ N ∧ ts.length - i < g)
    case atStart => exact ⟨0, [], none, 0, rfl, by omega, HB2.out, hs2, BK.out, OR.out, World.ownsRow_nil _ _ _ _, by rw [List.take_zero, RgL], HSL.out, HWL.out, HOL.out, by rw [List.drop_zero]; omega, by omega⟩
    case round =>
      obtain ⟨i, bs, AS, cS, rfl, hi, hbw, hsw, hk1, hoR, hoS, hL, hszl, hwfl, hopl, hnc, hg⟩ := hrel
      have HB := Lib.hid hbw; have HK := Lib.hid hk1; have HoR := Lib.hid hoR; have HoS := Lib.hid hoS; have HL := Lib.hid hL; have HZ := Lib.hid hszl; have HW := Lib.hid hwfl; have HO := Lib.hid hopl; have HN := Lib.hid hnc
      clear hbw hk1 hoR hoS hL hszl hwfl hopl hnc HB2 BK OR hs2 HSL HWL HOL
      obtain ⟨g', rfl⟩ : ∃ g', gk = g' + 1 := ⟨gk - 1, by omega⟩
      by_cases hlt : i < ts.length
      · obtain ⟨t, ts', hd⟩ : ∃ t ts', ts.drop i = t :: ts' := by
          cases hdr : ts.drop i with
          | nil => have := List.drop_eq_nil_iff.1 hdr; omega
          | cons t ts' => exact ⟨t, ts', rfl⟩
        obtain ⟨bb, oo, D2, b2, D7, b7, rfl, y0, y1, y2, y3, y4, y5, y6, y7, l2, g2, l7, g7⟩ := elem_at H7.out hd
        have hbT := HB.out
        rw [← hT0] at hbT
        have q0 := Gb.cellB hbT y0
        have q1 := Gb.cellB hbT y1
        have q2 := Gb.cellB hbT y2
        have q3 := Gb.cellB hbT y3
        have q4 := Gb.cellB hbT y4
        have q5 := Gb.cellB hbT y5
        have q6 := Gb.cellB hbT y6
        have q7 := Gb.cellB hbT y7
        have HG2 := Lib.hid (Kd.C_below g2 hbT)
        have HG7 := Lib.hid (Kd.C_below g7 hbT)
        clear y0 y1 y2 y3 y4 y5 y6 y7 g2 g7 hbT
        have hd1 := (rd_at hd).2.2
        have hzl := HZ.out; have hwl := HW.out; have hol := HO.out; have hnl := HN.out
        rw [hd] at hzl hwl hol hnl
        rw [szL] at hzl
        rw [wfL] at hwl
        rw [opL] at hol
        rw [ncL] at hnl
        have HD := Lib.hid hd; have HD1 := Lib.hid hd1; have HZl := Lib.hid hzl; have HWl := Lib.hid hwl; have HOl := Lib.hid hol; have HNl := Lib.hid hnl
        clear hd hd1 hzl hwl hol hnl HZ HW HO HN
        go_upto_region 6 with fail
        have x1 := Mem.blk_old HK.out (.cells #[.int .i64 t.f0, .int .i64 t.f1, .slice D2 t.f2.length b2, .int .i64 t.f3, .int .i64 t.f4, .int .i64 t.f5, .string t.f6, .slice D7 t.f7.length b7] 40)
        have x5 := Mem.blk_new wr (.cells #[.int .i64 t.f0, .int .i64 t.f1, .slice D2 t.f2.length b2, .int .i64 t.f3, .int .i64 t.f4, .int .i64 t.f5, .string t.f6, .slice D7 t.f7.length b7] 40)
        have bA : Below wr.heap.size wr (wr.alloc (.cells #[.int .i64 t.f0, .int .i64 t.f1, .slice D2 t.f2.length b2, .int .i64 t.f3, .int .i64 t.f4, .int .i64 t.f5, .string t.f6, .slice D7 t.f7.length b7] 40)) := (Below.refl _ _).alloc (Nat.le_refl _) _
        have hs5 : (wr.alloc (.cells #[.int .i64 t.f0, .int .i64 t.f1, .slice D2 t.f2.length b2, .int .i64 t.f3, .int .i64 t.f4, .int .i64 t.f5, .string t.f6, .slice D7 t.f7.length b7] 40)).heap.size = wr.heap.size + 1 := by simp
        have BA := Lib.hid bA
        clear bA q0 q1 q2 q3 q4 q5 q6 q7
        generalize wr.alloc (.cells #[.int .i64 t.f0, .int .i64 t.f1, .slice D2 t.f2.length b2, .int .i64 t.f3, .int .i64 t.f4, .int .i64 t.f5, .string t.f6, .slice D7 t.f7.length b7] 40) = W5 at *
        have z : W5.cell? ⟨T0 + 1, 2, none⟩ = some (.slice AS i cS) := (blk_cell x1 2).trans rfl
        have z0 : W5.cell? ⟨wr.heap.size, 0, none⟩ = some (.int .i64 t.f0) := (blk_cell x5 0).trans rfl
        have z1 : W5.cell? ⟨wr.heap.size, 1, none⟩ = some (.int .i64 t.f1) := (blk_cell x5 1).trans rfl
        have z2 : W5.cell? ⟨wr.heap.size, 2, none⟩ = some (.slice D2 t.f2.length b2) := (blk_cell x5 2).trans rfl
        have z3 : W5.cell? ⟨wr.heap.size, 3, none⟩ = some (.int .i64 t.f3) := (blk_cell x5 3).trans rfl
        have z4 : W5.cell? ⟨wr.heap.size, 4, none⟩ = some (.int .i64 t.f4) := (blk_cell x5 4).trans rfl
        have z5 : W5.cell? ⟨wr.heap.size, 5, none⟩ = some (.int .i64 t.f5) := (blk_cell x5 5).trans rfl
        have z6 : W5.cell? ⟨wr.heap.size, 6, none⟩ = some (.string t.f6) := (blk_cell x5 6).trans rfl
        have z7 : W5.cell? ⟨wr.heap.size, 7, none⟩ = some (.slice D7 t.f7.length b7) := (blk_cell x5 7).trans rfl
        have X1 := Lib.hid x1
        have X5 := Lib.hid x5
        clear x1 x5
        have CI : Hid (∀ w1, Below W5.heap.size W5 w1 → Calls Tryd.prog 57 #[.agg #[.int .i64 t.f0, .int .i64 t.f1, .slice D2 t.f2.length b2, .int .i64 t.f3, .int .i64 t.f4, .int .i64 t.f5, .string t.f6, .slice D7 t.f7.length b7]] w1 fun e w' =>
            ∃ b, e = .returned (.pointer (some ⟨b, 0, none⟩)) ∧ Below w1.heap.size w1 w' ∧ RgT w' (fun k => w1.heap.size ≤ k) b t) := Lib.hid fun w1 hb1 =>
          IH.out t D2 b2 D7 b7 w1 (by have := HNl.out; omega) HWl.out.1 HZl.out.1 HOl.out.1 (Kd.C_below HG2.out (BA.out.trans (hb1.mono (by omega)))) l2 (Kd.C_below HG7.out (BA.out.trans (hb1.mono (by omega)))) l7
        refine Mem.wp_region_midk 6 3 (fun w' => w'.cell? ⟨T0 + 1, 2, none⟩ = some (.slice AS i cS) ∧ w'.cell? ⟨wr.heap.size, 0, none⟩ = some (.int .i64 t.f0) ∧ w'.cell? ⟨wr.heap.size, 1, none⟩ = some (.int .i64 t.f1) ∧ w'.cell? ⟨wr.heap.size, 2, none⟩ = some (.slice D2 t.f2.length b2) ∧ w'.cell? ⟨wr.heap.size, 3, none⟩ = some (.int .i64 t.f3) ∧
          w'.cell? ⟨wr.heap.size, 4, none⟩ = some (.int .i64 t.f4) ∧ w'.cell? ⟨wr.heap.size, 5, none⟩ = some (.int .i64 t.f5) ∧ w'.cell? ⟨wr.heap.size, 6, none⟩ = some (.string t.f6) ∧ w'.cell? ⟨wr.heap.size, 7, none⟩ = some (.slice D7 t.f7.length b7)) (by kernel_rfl) (by kernel_rfl) ⟨z, z0, z1, z2, z3, z4, z5, z6, z7⟩ ?_
        simp only [List.take_succ_cons, List.take_zero, List.drop_succ_cons, List.drop_zero]
        iterate 6
          refine Mem.wpHeld_step (v := ?_) (by rfl) ?_ ?_
          rotate_left
          · intro w hSw; (try dsimp only at hSw); go_simp; try with_reducible rfl
          try simp only [Act.put, List.setIfInBounds_toArray, List.set_cons_zero, List.set_cons_succ]
        refine Mem.wpHeld_nil ?_
        simp only [Mem.midK]
        refine wpOp_step rfl ?_
        intro K' hK
        go_simp
        go_wp2_with (go_at_call 57; refine ((CI.out _ ((Below.refl _ _).drew)).mono ?_); rintro e w1 ⟨b, rfl, hb6, hR6⟩)
        have b6 : Below W5.heap.size W5 w1 := (Below.refl _ _).drew.trans hb6
        refine ⟨⟨Gb.cellB b6 z, Gb.cellB b6 z0, Gb.cellB b6 z1, Gb.cellB b6 z2, Gb.cellB b6 z3, Gb.cellB b6 z4, Gb.cellB b6 z5, Gb.cellB b6 z6, Gb.cellB b6 z7⟩, ?_⟩
        have hpre : ∀ k, k < wr.heap.size → w1.heap[k]? = wr.heap[k]? := fun k hk => (b6.block k (by omega)).trans (BA.out.block k hk)
        have hsz6 := b6.size
        have k1 := (b6.block (T0 + 1) (by omega)).trans X1.out
        have k5 := (b6.block wr.heap.size (by omega)).trans X5.out
        have k1' := Mem.blk_old k1 (.cells #[.pointer (some ⟨b, 0, none⟩)] 62)
        have k5' := Mem.blk_old k5 (.cells #[.pointer (some ⟨b, 0, none⟩)] 62)
        have hS7 := b6.alloc b6.size (.cells #[.pointer (some ⟨b, 0, none⟩)] 62)
        have hoS1 : w1.ownsRow (T0 + 2) 62 1 (.slice AS i cS) i (ptrs bs) := own_move HoS.out fun k hk => hpre k (own_blk HoS.out hk)
        have hoR1 : w1.ownsRow (T0 + 2) 21 1 (.slice AR rs.length cR) rs.length (rs.map (Value.int .i32)) := own_move HoR.out fun k hk => hpre k (own_blk HoR.out hk)
        have hoS1' := hoS1.alloc (.cells #[.pointer (some ⟨b, 0, none⟩)] 62)
        have hoR1' := hoR1.alloc (.cells #[.pointer (some ⟨b, 0, none⟩)] 62)
        have nS := Mem.own_apart hoS1' k1' (by decide)
        have nS5 := Mem.own_apart hoS1' k5' (by decide)
        refine wpOp_step rfl ?_
        intro K' hK
        go_simp
        refine hK _ _ ⟨⟨Gb.cellB hS7 z, Gb.cellB hS7 z0, Gb.cellB hS7 z1, Gb.cellB hS7 z2, Gb.cellB hS7 z3, Gb.cellB hS7 z4, Gb.cellB hS7 z5, Gb.cellB hS7 z6, Gb.cellB hS7 z7⟩, ?_⟩
        clear hK K'
        have hbl := bs.length
        refine wpOp_step rfl ?_
        intro K' hK
        rw [if_pos (by rfl)]
        refine wp_app1_op (.tmp 39) (.tmp 42) 88 rfl (T0 + 2) 62 (.pointer none) 8 Tryd.underlying88 (by kernel_rfl) rfl (.slice AS i cS) i (ptrs bs) rfl hoS1 (.pointer (some ⟨b, 0, none⟩)) rfl rfl (by have := HRM.out; unfold Room at this; unfold maxLen; omega) (by have := HRM.out; unfold Room at this; omega) (by omega) ?_
        intro v' w2 hown hg2 hat
        obtain ⟨A', c', rfl⟩ := own_slice hown
        have m1 := Mem.blk_grown k1' hg2 nS
        have m5 := Mem.blk_grown k5' hg2 nS5
        have hoR2 := own_move (w1 := w2) hoR1' fun k hk => hg2.block k (own_blk hoR1' hk) (Ne.symm (Mem.own_apart2 hoS1' hoR1' (by decide) k hk))
        have nR := Mem.own_apart hoR2 m1 (by decide)
        have nN := Mem.own_apart hown m1 (by decide)
        have fz := blk_frozen m1 2
        have z' : w2.cell? ⟨T0 + 1, 2, none⟩ = some (.slice AS i cS) := (blk_cell m1 2).trans rfl
        refine hK _ _ ⟨⟨z', (blk_cell m5 0).trans rfl, (blk_cell m5 1).trans rfl, (blk_cell m5 2).trans rfl, (blk_cell m5 3).trans rfl, (blk_cell m5 4).trans rfl, (blk_cell m5 5).trans rfl, (blk_cell m5 6).trans rfl, (blk_cell m5 7).trans rfl⟩, ?_⟩
        clear hK K'
        have HM1 := Lib.hid m1
        have hch : ∀ k, k < w1.heap.size → some k ≠ (Value.slice AS i cS).ownBlock → k ≠ T0 + 1 → (w2.setCell ⟨T0 + 1, 2, none⟩ (.slice A' (i + 1) c')).heap[k]? = w1.heap[k]? := fun k hk h1 h2 =>
          (Below.heap_setCell _ _ _ k h2).trans ((hg2.block k (by simp; omega) h1).trans (Below.heap_alloc _ _ _ hk))
        have hbT : Below T0 w w1 := (HB.out.trans ((BA.out).mono (by omega))).trans (b6.mono (by omega))
        have HLn : RgL (w2.setCell ⟨T0 + 1, 2, none⟩ (.slice A' (i + 1) c')) (fun k => T0 + 2 ≤ k ∧ some k ≠ (Value.slice A' (i + 1) c').ownBlock) (bs ++ [b]) (ts.take (i + 1)) := by
          have hti : ts.take (i + 1) = ts.take i ++ [t] := by
            have hg := (rd_at HD.out)
            have : ts[i]? = some t := by
              have := congrArg List.head? HD.out
              rw [List.head?_drop] at this
              simpa using this
            rw [List.take_add_one, this]; rfl
          rw [hti]
          have hatk : ∀ k, some k ≠ (Value.slice AS i cS).ownBlock → k < w1.heap.size → some k ≠ (Value.slice A' (i + 1) c').ownBlock := fun k h1 h2 => by
            rcases hat with h | h <;> rw [h]
            · exact h1
            · intro e; injection e with e; omega
          refine rgL_snoc (rgT_move (fun k hk hlt => ?_) t b hR6) _ _ (rgL_move (fun k hk hlt => ?_) _ _ HL.out)
          · have hd5 : W5.drew.heap.size = W5.heap.size := rfl
            have h1 : some k ≠ (Value.slice AS i cS).ownBlock := fun e => by
              have := own_blk HoS.out e.symm
              omega
            exact ⟨hch k hlt h1 (by omega), by omega, hatk k h1 hlt⟩
          · exact ⟨(hch k (by omega) hk.2 (by omega)).trans (hpre k hlt), hk.1, hatk k hk.2 (by omega)⟩
        have HLN := Lib.hid HLn
        have HON := Lib.hid (ownsRow_setCell_other hown (Ne.symm nN) (a := ⟨T0 + 1, 2, none⟩) (.slice A' (i + 1) c'))
        have HRN := Lib.hid (ownsRow_setCell_other hoR2 (Ne.symm nR) (a := ⟨T0 + 1, 2, none⟩) (.slice A' (i + 1) c'))
        have HKN := Lib.hid (blk_put m1 2 (.slice A' (i + 1) c') rfl)
        have HBN := Lib.hid (((hbT.alloc (by omega) (.cells #[.pointer (some ⟨b, 0, none⟩)] 62)).grown hg2 (by simp; omega) (fun k hk => by have := own_blk hoS1' hk; have := (hoS1'.lt k hk).1; omega)).setCell (p := ⟨T0 + 1, 2, none⟩) (by simp) (.slice A' (i + 1) c'))
        have hsN : T0 + 2 ≤ (w2.setCell ⟨T0 + 1, 2, none⟩ (.slice A' (i + 1) c')).heap.size := by have := hg2.size; simp [World.setCell] at this ⊢; omega
        clear HLn hch hpre hown hoR2 nR nN m1 m5 hg2 hat hoS1' hoR1' hoS1 hoR1 nS nS5 k1 k5 k1' k5' hS7 hR6 hb6 z z0 z1 z2 z3 z4 z5 z6 z7
        go_wp2_with fail
        refine NoPanic.normal ?_
        go_wp2
        go_roundg g'
        case rel => exact ⟨i + 1, bs ++ [b], A', c', by go_num, by omega, HBN.out, hsN, HKN.out, HRN.out, by have := HON.out; simpa [ptrs] using this, HLN.out, by rw [HD1.out]; exact HZl.out.2, by rw [HD1.out]; exact HWl.out.2, by rw [HD1.out]; exact HOl.out.2, by rw [HD1.out]; have := HNl.out; omega, by omega⟩
        case measure => omega
      · obtain rfl : i = ts.length := by omega
        go_wp2
        go_ret
        refine ⟨T0 + 1, rfl, by rw [hT0]; exact HB.out, ?_⟩
        rw [RgT, hT0]
        have hL := HL.out
        rw [List.take_length] at hL
        exact ⟨by omega, .slice AS ts.length cS, .slice AR rs.length cR, bs, HK.out, fun k hk => by have := (HoR.out.lt k hk).1; omega, own_weaken HoR.out (Nat.zero_le _), fun k hk => by have := (HoS.out.lt k hk).1; omega, own_weaken HoS.out (Nat.zero_le _), rgL_move (fun k hk hlt => ⟨rfl, by omega, by omega⟩) _ _ hL⟩
end Go.Proofs.YtholpemmakdglaaDoor.PFnMtLeastLen
namespace Go.Proofs.YtholpemmakdglaaDoor.PFnMtLeastLen
open Go.RowKit Go.ChangeShapes Go.WideShapes Go.Proofs.YtholpemmakdglaaDoorW.PrintWords Go.Proofs.YtholpemmakdglaaDoorW.PrintLast Go.Proofs.YtholpemmakdglaaDoorW.PrintMore
set_option linter.unusedVariables false
theorem szL_of : ∀ ts : List Tr, (∀ (j : Nat) (p : Tr), ts[j]? = some p → szT p) → szL ts
  | [], _ => by simp [szL]
  | t :: ts, h => by
    rw [szL]
    exact ⟨h 0 t rfl, szL_of ts fun j p hj => h (j + 1) p (by simpa using hj)⟩
/-- All weights stay within what can be laid out. -/
def Lays (P : Program) (t : TypeId) {H : Type} (d : DataW H) : Prop := (d.weights P t).all (· ≤ reachBytes) = true
theorem lays_elem {P : Program} {e : TypeId} {H : Type} : ∀ (ds : List (DataW H)) (i : Nat) (d : DataW H), (DataW.weightsAll P e ds).all (· ≤ reachBytes) = true → ds[i]? = some d → Lays P e d
  | [], i, d, h, hi => by simp at hi
  | d' :: ds, i, d, h, hi => by
    rw [DataW.weightsAll, List.all_append, Bool.and_eq_true] at h
    cases i with
    | zero => simp at hi; subst hi; exact h.1
    | succ i => exact lays_elem ds i d h.2 (by simpa using hi)
theorem lays_slice {P : Program} {t e : TypeId} {H : Type} (ht : P.underlying t = some (.slice e)) {el sp : List (DataW H)} (h : Lays P t (.slice el sp)) : (el.length + sp.length) * P.bytesOf e ≤ reachBytes ∧ (DataW.weightsAll P e el).all (· ≤ reachBytes) = true := by
  unfold Lays at h
  rw [DataW.weights, ht] at h
  simp only [List.all_cons, List.all_append, Bool.and_eq_true, decide_eq_true_eq] at h
  exact ⟨h.1, h.2.1⟩
section
variable {H : Type} {enc : TypeId × Value → H} {w : World} {base : Nat} {held : Bool}
/-- A slice of whole numbers handed in, as the printed texts read it. -/
theorem ints_kd2 {t e : TypeId} {k : IntKind} {v : Value} {fuel : Nat} {x : DataW H × List MemPlace} (ht : Tryd.prog.underlying t = some (.slice e)) (he : Tryd.prog.underlying e = some (.int k)) (hc : Tryd.prog.cellsOf e = 1)
    (h : DataW.trod enc Tryd.prog w base (fun _ => true) held fuel t [v] = some x) : ∃ A c, ∃ zs : List Int, v = .slice A zs.length c ∧ zs.length ≤ c ∧ (Kd.int k).C w A zs.length zs ∧ (Lays Tryd.prog t x.1 → zs.length * Tryd.prog.bytesOf e ≤ reachBytes) := by
  rcases open_ints ht he hc h with ⟨hcs, _⟩ | ⟨a, l, c', zs, hcs, _, hl, hm, hz, hx, hcell, hwz⟩
  · simp at hcs
    exact ⟨none, 0, [], hcs, Nat.le_refl _, ⟨rfl, by simp, fun h => absurd h (by simp)⟩, fun _ => by simp⟩
  · simp at hcs
    subst hcs
    simp only [if_true] at hz
    have hlen : (zs.take l).length = l := by simp; omega
    refine ⟨some a, c', zs.take l, by rw [hlen], by omega, ⟨rfl, by rw [hlen]; unfold maxLen at hm; omega, fun _ => ⟨a, rfl, fun j p hj => ⟨[.int k p], rfl, rfl, fun i u hu => ?_⟩⟩⟩, fun hL => ?_⟩
    rotate_left
    · rw [hx] at hL
      have h1 := (lays_slice ht hL).1
      have : (lits (H := H) k (zs.take l)).length = (zs.take l).length := by simp [lits]
      exact Nat.le_trans (Nat.mul_le_mul_right _ (by omega)) h1
    have hi : i = 0 := by
      cases i with
      | zero => rfl
      | succ i => simp at hu
    subst hi
    simp at hu
    subst hu
    have hjl : j < l := by
      rcases Nat.lt_or_ge j l with h | h
      · exact h
      · rw [List.getElem?_eq_none (by omega)] at hj; cases hj
    have hsz : (Kd.int k).sz = 1 := rfl
    rw [hsz, Nat.mul_one, Nat.add_zero, hcell j (by omega)]
    rw [List.getElem?_take, if_pos hjl] at hj
    rw [List.getD_eq_getElem?_getD, hj]
    rfl
set_option maxRecDepth 100000 in
theorem tree_open2 : ∀ (fuel : Nat) {cs : List Value} {x : DataW H × List MemPlace}, DataW.trod enc Tryd.prog w base (fun _ => true) held fuel 40 cs = some x → ∃ t : S40, k40.K w t cs ∧ (Lays Tryd.prog 40 x.1 → szT t) := by
  intro fuel
  induction fuel using Nat.strongRecOn with
  | _ fuel ih =>
    intro cs x h
    obtain ⟨xs, n, hn, hxx, hl, hxl, hf⟩ := DataW.trod_struct Tryd.underlying40 h
    have hl8 : cs.length = 8 := hl.trans (by kernel_rfl)
    match cs, hl8 with
    | [v0, v1, v2, v3, v4, v5, v6, v7], _ =>
      have c1 : Tryd.prog.cellsOf 3 = 1 := by kernel_rfl
      have c2 : Tryd.prog.cellsOf 22 = 1 := by kernel_rfl
      have c3 : Tryd.prog.cellsOf 9 = 1 := by kernel_rfl
      have c4 : Tryd.prog.cellsOf 38 = 1 := by kernel_rfl
      have f0 := hf 0 _ rfl
      have f1 := hf 1 _ rfl
      have f2 := hf 2 _ rfl
      have f3 := hf 3 _ rfl
      have f4 := hf 4 _ rfl
      have f5 := hf 5 _ rfl
      have f6 := hf 6 _ rfl
      have f7 := hf 7 _ rfl
      have hx : ∀ i, i < 8 → ∃ y, xs[i]? = some y := fun i hi => ⟨_, List.getElem?_eq_getElem (by rw [hxl]; exact hi)⟩
      obtain ⟨y0, e0⟩ := hx 0 (by omega)
      obtain ⟨y1, e1⟩ := hx 1 (by omega)
      obtain ⟨y2, e2⟩ := hx 2 (by omega)
      obtain ⟨y3, e3⟩ := hx 3 (by omega)
      obtain ⟨y4, e4⟩ := hx 4 (by omega)
      obtain ⟨y5, e5⟩ := hx 5 (by omega)
      obtain ⟨y6, e6⟩ := hx 6 (by omega)
      obtain ⟨y7, e7⟩ := hx 7 (by omega)
      rw [e0] at f0; rw [e1] at f1; rw [e2] at f2; rw [e3] at f3; rw [e4] at f4; rw [e5] at f5; rw [e6] at f6; rw [e7] at f7
      simp [c1] at f0 f1 f3 f4 f5
      simp [c2] at f2
      simp [c3] at f6
      simp [c4] at f7
      obtain ⟨op, h0, _, _⟩ := DataW.trod_int Tryd.underlying3 f0
      obtain ⟨fl, h1, _, _⟩ := DataW.trod_int Tryd.underlying3 f1
      obtain ⟨mn, h3, _, _⟩ := DataW.trod_int Tryd.underlying3 f3
      obtain ⟨mx, h4, _, _⟩ := DataW.trod_int Tryd.underlying3 f4
      obtain ⟨cp, h5, _, _⟩ := DataW.trod_int Tryd.underlying3 f5
      obtain ⟨nm, h6, _, _⟩ := DataW.trod_string Tryd.underlying9 f6
      simp at h0 h1 h3 h4 h5 h6
      subst h0 h1 h3 h4 h5 h6
      obtain ⟨A, c, rs, rfl, hrc, hr, hrl⟩ := ints_kd2 Tryd.underlying22 Tryd.underlying21 (by kernel_rfl) f2
      have hs : ∃ A c, ∃ ts : List S40, v7 = .slice A ts.length c ∧ ts.length ≤ c ∧ k40.C w A ts.length ts ∧ (Lays Tryd.prog 38 y7.1 → Room ts.length 8 ∧ szL ts) := by
        rcases DataW.trod_slice Tryd.underlying38 f7 with ⟨hcs, _⟩ | ⟨a, len, cap, el, rest, m, hfu, hcs, hx7, _, hlc, hcm, hel, helem, _, _⟩
        · simp at hcs
          exact ⟨none, 0, [], hcs, Nat.le_refl _, ⟨rfl, by simp, fun h => absurd h (by simp)⟩, fun _ => ⟨by simp [Room], by simp [szL]⟩⟩
        · simp at hcs
          subst hcs
          have c8 : Tryd.prog.cellsOf 40 = 8 := by kernel_rfl
          have hall : ∀ i, i < len → ∃ (t : S40), (∃ (ce : List Value), ce.length = 8 ∧ k40.K w t ce ∧ ∀ j u, ce[j]? = some u → w.cell? (a.add (i * 8 + j)) = some u) ∧ (∀ b, el[i]? = some b → Lays Tryd.prog 40 b.1 → szT t) := by
            intro i hi
            have h1 := helem i hi
            rw [c8] at h1
            obtain ⟨b, hb⟩ : ∃ b, el[i]? = some b := ⟨_, List.getElem?_eq_getElem (by omega)⟩
            rw [hb] at h1
            obtain ⟨ce, hce, hte⟩ := Option.bind_eq_some_iff.1 h1
            obtain ⟨_, hcl, hcc⟩ := World.cells?_some hce
            obtain ⟨t, ht, hzt⟩ := ih m (by omega) hte
            refine ⟨t, ⟨ce, hcl, ht, fun j u hj => ?_⟩, fun b' hb' hL => hzt (by rw [hb] at hb'; injection hb' with hb'; rw [hb']; exact hL)⟩
            have hj8 : j < 8 := by
              rcases Nat.lt_or_ge j 8 with h | h
              · exact h
              · rw [List.getElem?_eq_none (by omega)] at hj; cases hj
            rw [← hj, ← hcc j hj8, Go.Deep.add_add]
          have hch : ∃ ts : List S40, ts.length = len ∧ ∀ (j : Nat) (p : S40), ts[j]? = some p → (∃ c, c.length = 8 ∧ k40.K w p c ∧ ∀ i u, c[i]? = some u → w.cell? (a.add (j * 8 + i)) = some u) ∧ (∀ b, el[j]? = some b → Lays Tryd.prog 40 b.1 → szT p) := by
            exact list_of len hall
          obtain ⟨ts, hl, hts⟩ := hch
          refine ⟨some a, cap, ts, by rw [hl], by omega, ⟨rfl, by rw [hl]; unfold maxLen at hcm; omega, fun _ => ⟨a, rfl, fun j p hj => (hts j p hj).1⟩⟩, fun hL => ?_⟩
          rw [hx7] at hL
          obtain ⟨h1, h2⟩ := lays_slice Tryd.underlying38 hL
          refine ⟨?_, szL_of ts fun j p hj => ?_⟩
          · have hb : 8 ≤ Tryd.prog.bytesOf 40 := of_decide_eq_true (by kernel_rfl)
            have h3 : ts.length * 8 ≤ reachBytes := Nat.le_trans (Nat.mul_le_mul (by simp; omega) hb) h1
            unfold Room; unfold reachBytes at h3; omega
          · have hjl : j < el.length := by
              rcases Nat.lt_or_ge j ts.length with h | h
              · omega
              · rw [List.getElem?_eq_none h] at hj; cases hj
            exact (hts j p hj).2 _ (List.getElem?_eq_getElem hjl) (lays_elem _ j _ h2 (by simp [List.getElem?_eq_getElem hjl]))
      obtain ⟨A7, c7, ts, rfl, h7c, h7, hl7⟩ := hs
      refine ⟨⟨op, fl, rs, mn, mx, cp, nm, ts⟩, k40_mk w ⟨op, fl, rs, mn, mx, cp, nm, ts⟩ hrc hr h7c h7, fun hL => ?_⟩
      have hxs : xs = [y0, y1, y2, y3, y4, y5, y6, y7] := by
        have hx8 : xs.length = 8 := hxl
        match xs, hx8 with
        | [a0, a1, a2, a3, a4, a5, a6, a7], _ => simp at e0 e1 e2 e3 e4 e5 e6 e7; simp [e0, e1, e2, e3, e4, e5, e6, e7]
      rw [hxx, hxs] at hL
      unfold Lays at hL
      rw [DataW.weights, Tryd.underlying40] at hL
      simp only [List.map_cons, List.map_nil, DataW.weightsEach, List.all_append, Bool.and_eq_true] at hL
      rw [szT]
      obtain ⟨r7, z7⟩ := hl7 hL.2.2.2.2.2.2.2.1
      refine ⟨?_, r7, z7⟩
      have h1 := hrl hL.2.2.1
      rw [show Tryd.prog.bytesOf 21 = 4 by kernel_rfl] at h1
      unfold Room; unfold reachBytes at h1; omega
end
end Go.Proofs.YtholpemmakdglaaDoor.PFnMtLeastLen
namespace Go.Proofs.YtholpemmakdglaaDoor.PFnMtLeastLen
open Go.RowKit Go.Proofs.YtholpemmakdglaaDoorW.PrintWords Go.Proofs.YtholpemmakdglaaDoorW.PrintLast Go.Proofs.YtholpemmakdglaaDoorW.PrintMore
set_option linter.unusedVariables false
set_option linter.unusedSimpArgs false
theorem snd_op {op : Int} {rs : List Int} {m0 m1 cp : Int} {sub : Nat} (h : sndF op rs m0 m1 cp sub = true) : 0 ≤ op ∧ op ≤ 255 := by
  unfold sndF at h
  by_cases c : 0 ≤ op ∧ op ≤ 255
  · exact c
  · exfalso
    rw [if_neg (by omega), if_neg (by omega), if_neg (by omega), if_neg (by omega), if_neg (by omega), if_neg (by omega), if_neg (by omega), if_neg (by omega)] at h
    exact Bool.false_ne_true h
mutual
theorem op_of_gd : ∀ (t : Tr) (h : Nat), gdT t h → opT t
  | ⟨op, fl, rs, m0, m1, cp, nm, ts⟩, h, hg => by
    rw [gdT] at hg
    rw [opT]
    have h1 := snd_op hg.2.1
    exact ⟨h1.1, h1.2, opL_of_gd ts (h + 1) hg.2.2.2.2⟩
theorem opL_of_gd : ∀ (ts : List Tr) (h : Nat), gdL ts h → opL ts
  | [], h, _ => by rw [opL]; trivial
  | t :: ts, h, hg => by
    rw [gdL] at hg
    rw [opL]
    exact ⟨op_of_gd t h hg.1, opL_of_gd ts h hg.2⟩
end
set_option maxRecDepth 100000 in
set_option maxHeartbeats 4000000 in
theorem treeFor_c (t : Tr) (A2 : Option Addr) (c2 : Nat) (A7 : Option Addr) (c7 : Nat) (w : World) (hwf : wfT t) (hsz : szT t) (hgd : gdT t 1) (hnc : ncT t ≤ 50000)
    (h2 : (Kd.int .i32).C w A2 t.f2.length t.f2) (hc2 : t.f2.length ≤ c2) (h7 : k40.C w A7 t.f7.length t.f7) (hc7 : t.f7.length ≤ c7) :
    Calls Tryd.prog 38 #[.agg #[.int .i64 t.f0, .int .i64 t.f1, .slice A2 t.f2.length c2, .int .i64 t.f3, .int .i64 t.f4, .int .i64 t.f5, .string t.f6, .slice A7 t.f7.length c7]] w fun e w' =>
      ∃ b, e = .returned (.tuple #[.pointer (some ⟨b, 0, none⟩), .bool true]) ∧ Below w.heap.size w w' ∧ RgT w' (fun _ => True) b t := by
  have CW : Hid (∀ w1, Below w.heap.size w w1 → w1.cell? ⟨w.heap.size + 1, 0, none⟩ = some (.int .i64 0) → w1.frozen? ⟨w.heap.size + 1, 0, none⟩ = false →
      Calls Tryd.prog 56 #[.agg #[.int .i64 t.f0, .int .i64 t.f1, .slice A2 t.f2.length c2, .int .i64 t.f3, .int .i64 t.f4, .int .i64 t.f5, .string t.f6, .slice A7 t.f7.length c7], .int .i64 1, .pointer (some ⟨w.heap.size + 1, 0, none⟩)] w1 fun e w' =>
      e = .returned (.tuple #[.int .i64 (wgT t), .bool true]) ∧ w1.grownBy w' (some (w.heap.size + 1))) := Lib.hid fun w1 hb hc hf =>
    (weigh_c (ncT t) t A2 c2 A7 c7 1 (w.heap.size + 1) 0 w w1 (Nat.le_refl _) hwf hgd (by omega) h2 hc2 h7 hc7 hb (by omega) hc hf).mono fun e w' h => ⟨h.1, h.2.1⟩
  have CR : Hid (∀ w1, Below w.heap.size w w1 → Calls Tryd.prog 57 #[.agg #[.int .i64 t.f0, .int .i64 t.f1, .slice A2 t.f2.length c2, .int .i64 t.f3, .int .i64 t.f4, .int .i64 t.f5, .string t.f6, .slice A7 t.f7.length c7]] w1 fun e w' =>
      ∃ b, e = .returned (.pointer (some ⟨b, 0, none⟩)) ∧ Below w1.heap.size w1 w' ∧ RgT w' (fun k => w1.heap.size ≤ k) b t) := Lib.hid fun w1 hb =>
    regexpOf_c (ncT t) t A2 c2 A7 c7 w1 (Nat.le_refl _) hwf hsz (op_of_gd t 1 hgd) (Kd.C_below h2 hb) hc2 (Kd.C_below h7 hb) hc7
  clear hwf hsz hgd hnc h2 h7
  go_enter Tryd.func38, Tryd.ntmps38
  go_upto_region 2 with fail
  have hb1 : Below w.heap.size w ((w.alloc (.cells #[.int .i64 t.f0, .int .i64 t.f1, .slice A2 t.f2.length c2, .int .i64 t.f3, .int .i64 t.f4, .int .i64 t.f5, .string t.f6, .slice A7 t.f7.length c7] 40)).alloc (.cells #[.int .i64 0] 3)) := ((Below.refl _ _).alloc (Nat.le_refl _) _).alloc (by simp) _
  have k0 := Mem.blk_old (Mem.blk_new w (.cells #[.int .i64 t.f0, .int .i64 t.f1, .slice A2 t.f2.length c2, .int .i64 t.f3, .int .i64 t.f4, .int .i64 t.f5, .string t.f6, .slice A7 t.f7.length c7] 40)) (.cells #[.int .i64 0] 3)
  have k1 := Mem.blk_new (w.alloc (.cells #[.int .i64 t.f0, .int .i64 t.f1, .slice A2 t.f2.length c2, .int .i64 t.f3, .int .i64 t.f4, .int .i64 t.f5, .string t.f6, .slice A7 t.f7.length c7] 40)) (.cells #[.int .i64 0] 3)
  have hs0 : (w.alloc (.cells #[.int .i64 t.f0, .int .i64 t.f1, .slice A2 t.f2.length c2, .int .i64 t.f3, .int .i64 t.f4, .int .i64 t.f5, .string t.f6, .slice A7 t.f7.length c7] 40)).heap.size = w.heap.size + 1 := by simp
  rw [hs0] at k1
  generalize (w.alloc (.cells #[.int .i64 t.f0, .int .i64 t.f1, .slice A2 t.f2.length c2, .int .i64 t.f3, .int .i64 t.f4, .int .i64 t.f5, .string t.f6, .slice A7 t.f7.length c7] 40)).alloc (.cells #[.int .i64 0] 3) = W1 at *
  clear hs0
  have d0 : W1.cell? ⟨w.heap.size, 0, none⟩ = some (.int .i64 t.f0) := (blk_cell k0 0).trans rfl
  have d1 : W1.cell? ⟨w.heap.size, 1, none⟩ = some (.int .i64 t.f1) := (blk_cell k0 1).trans rfl
  have d2 : W1.cell? ⟨w.heap.size, 2, none⟩ = some (.slice A2 t.f2.length c2) := (blk_cell k0 2).trans rfl
  have d3 : W1.cell? ⟨w.heap.size, 3, none⟩ = some (.int .i64 t.f3) := (blk_cell k0 3).trans rfl
  have d4 : W1.cell? ⟨w.heap.size, 4, none⟩ = some (.int .i64 t.f4) := (blk_cell k0 4).trans rfl
  have d5 : W1.cell? ⟨w.heap.size, 5, none⟩ = some (.int .i64 t.f5) := (blk_cell k0 5).trans rfl
  have d6 : W1.cell? ⟨w.heap.size, 6, none⟩ = some (.string t.f6) := (blk_cell k0 6).trans rfl
  have d7 : W1.cell? ⟨w.heap.size, 7, none⟩ = some (.slice A7 t.f7.length c7) := (blk_cell k0 7).trans rfl
  have d : W1.cell? ⟨w.heap.size + 1, 0, none⟩ = some (.int .i64 0) := (blk_cell k1 0).trans rfl
  have f := blk_frozen k1 0
  have HB1 := Lib.hid hb1
  have D := Lib.hid d
  have F := Lib.hid f
  have K0 := Lib.hid k0
  clear k0 k1 hb1 d f
  go_wp2_with (go_at_call 56; refine (CW.out _ HB1.out D.out F.out).mono ?_; rintro e w2 ⟨rfl, hg2⟩; have hb2 := Gb.toBelow HB1.out hg2 HB1.out.size (by omega); have HB2 := Lib.hid hb2; have k2 := Mem.blk_grown K0.out hg2 (by simp); have e0 := Gb.cell hg2 d0 (by simp); have e1 := Gb.cell hg2 d1 (by simp); have e2 := Gb.cell hg2 d2 (by simp); have e3 := Gb.cell hg2 d3 (by simp); have e4 := Gb.cell hg2 d4 (by simp); have e5 := Gb.cell hg2 d5 (by simp); have e6 := Gb.cell hg2 d6 (by simp); have e7 := Gb.cell hg2 d7 (by simp); clear hg2 hb2 k2 d0 d1 d2 d3 d4 d5 d6 d7)
  go_wp2_with (go_at_call 57; refine (CR.out _ HB2.out).mono ?_; rintro e w3 ⟨b, rfl, hb3, hr3⟩)
  go_ret2
  exact ⟨b, rfl, HB2.out.trans (hb3.mono HB2.out.size), rgT_move (fun k _ _ => ⟨rfl, trivial⟩) t b hr3⟩
end Go.Proofs.YtholpemmakdglaaDoor.PFnMtLeastLen
