/- The merging called through the thin package. -/
import Derived.Test.YtholpemmakdglaaMergeL
import Derived.Deep.Upon
import Derived.StillTailTactics
import Derived.Deep.RegionWith
namespace Go.Proofs.Ytholpemmakdglaa.Mem
open Go.RowKit
set_option linter.unusedVariables false
section
variable (A : Option Addr) (cap : Nat) (zs : List Int) (w : World) {B : Nat}
/-- 'append([]T(nil), x...)', the elements whole numbers: a copy in a row of the call's own. -/
theorem run_appnil {P : Program} {k : IntKind} (t ty : TypeId) (e : TypeId) (bytes : Nat) (ht : P.underlying t = some (.slice e)) (hi : (P.info? e).map (fun i => (i.zero, i.size, i.bytes)) = some (some (.int k 0), 1, bytes))
    (hz : IntsAt w B k A zs) (h63 : zs.length ≤ maxLen) (hbytes : zs.length * bytes ≤ 140737488355328) :
    ∃ A' c' w', (Builtin.append_ #[t, t] ty #[.slice none 0 0, .slice A zs.length cap]).run P w = .ok (.slice A' zs.length c') w' ∧ IntsAt w' w'.heap.size k A' zs ∧ (∀ b o m, 0 < zs.length → A' = some ⟨b, o, m⟩ → w.heap.size ≤ b) ∧ Below w.heap.size w w' := by
  obtain ⟨i0, hi0, hz0, hz1, hz2⟩ := info_parts hi
  by_cases h0 : zs.length = 0
  · have hzs : zs = [] := List.length_eq_zero_iff.mp h0
    subst hzs
    have hsrc : Src P i0.size t (.slice A 0 cap) 0 [] w := by
      cases A with
      | none => exact Src.ofNil w ht cap
      | some ad => exact Src.ofSlice w ht ad 0 cap [] (by simp) (by simp) (by simp)
    exact ⟨none, 0, w, run_append_nothing (P := P) w t t ty e i0 ht hi0 none 0 0 (Nat.le_refl _) _ hsrc, fun h => absurd h (by simp), fun _ _ _ h => absurd h (by simp), Below.refl _ _⟩
  · obtain ⟨b, off, rfl, hb, hc⟩ := hz (by omega)
    obtain ⟨v', w', hr, ho', hg, -⟩ := run_append_own (P := P) w w.heap.size t ty e i0 (.int k 0) 1 bytes ht hi0 hz0 hz1 hz2 rfl (by omega) (.slice none 0 0) 0 [] (World.ownsRow_nil _ _ _ _) ⟨b, off, none⟩ zs.length cap (zs.map (Value.int k)) (by simp) (by
      intro j u hj
      have hj' : j < zs.length := by
        rcases Nat.lt_or_ge j zs.length with h | h
        · exact h
        · rw [List.getElem?_eq_none (by simpa using h)] at hj; cases hj
      rw [Addr.add_lit, hc j hj']
      simpa [List.getD_eq_getElem?_getD, List.getElem?_eq_getElem hj'] using hj) (by simp [Value.oneCell']) (by simpa using h63) (by simpa using hbytes) (Nat.le_refl _)
    simp only [Nat.zero_add, List.nil_append] at ho'
    have hl : 0 < zs.length := by omega
    obtain ⟨g, c', hv, hge, hlt⟩ := ho'.form hl
    subst hv
    exact ⟨_, _, w', hr, IntsAt.own ho', fun b o m _ e => by injection e with e; injection e with e; omega, (Below.refl _ _).grown hg (Nat.le_refl _) fun k hk => by simp [Value.ownBlock] at hk⟩
theorem wp_appnil {P : Program} {ops : Array Oper} {rest : List Oper} {o : Oper} {a : Act} {Q : Exit → Act → World → Prop} {k : IntKind} (hgd : o.guard = none) (x : Operand) (t : TypeId)
    (ho : o.op = .call { callee := .builtin .append, args := #[.const (.slice none 0 0), x], argTypes := #[t, t] })
    (e : TypeId) (bytes : Nat) (ht : P.underlying t = some (.slice e)) (hi : (P.info? e).map (fun i => (i.zero, i.size, i.bytes)) = some (some (.int k 0), 1, bytes))
    (hx : a.eval x = .slice A zs.length cap) (hz : IntsAt w B k A zs) (h63 : zs.length ≤ maxLen) (hbytes : zs.length * bytes ≤ 140737488355328)
    (h : ∀ A' c' w', IntsAt w' w'.heap.size k A' zs → Below w.heap.size w w' → wpList P ops Q rest (a.put o.dst (.slice A' zs.length c')) w') :
    wpList P ops Q (o :: rest) a w := by
  obtain ⟨A', c', w', hr, h1, h2, h3⟩ := run_appnil A cap zs w (P := P) t o.type e bytes ht hi hz h63 hbytes
  have he : a.eval (.const (.slice none 0 0)) = .slice none 0 0 := rfl
  refine wpList_plain hgd fun K hK => ?_
  unfold Oper.wp execOp
  simp only [ho, resolve, invoke, builtin, Sem.run_bind, Sem.run_pure, Result.andThen_ok, List.map_toArray, List.map_cons, List.map_nil, he, hx, hr]
  exact hK _ _ (h A' c' w' h1 h3)
end
set_option maxRecDepth 100000 in
set_option maxHeartbeats 4000000 in
theorem zzmerge_any (cl cr : Nat) (Al Ar : Option Addr) (ls rs : List Int) (lp rp : Int) (w : World)
    (zl : IntsAt w w.heap.size .i32 Al ls) (zr : IntsAt w w.heap.size .i32 Ar rs) (el : ls.length % 2 = 0) (er : rs.length % 2 = 0) (ml : ls.length ≤ 200) (mr : rs.length ≤ 200) :
    Calls Try.prog 27 #[.slice Al ls.length cl, .slice Ar rs.length cr, .int .u32 lp, .int .u32 rp] w fun e w' => ∃ vM vN, e = .returned (.tuple #[vM, vN]) ∧ Below w.heap.size w w' ∧ MPost w' vM vN (goM lp rp (ls.length + rs.length) [] [] ls rs) := by
  have hb : Below w.heap.size w ((w.alloc (.cells #[.slice Al ls.length cl] 26)).alloc (.cells #[.slice Ar rs.length cr] 26)) := ((Below.refl _ _).alloc (Nat.le_refl _) _).alloc (by simp) _
  have h := merge_any (pL := w.heap.size) (pR := w.heap.size + 1) (cl := cl) (cr := cr) (Al := Al) (Ar := Ar) ls rs lp rp ((w.alloc (.cells #[.slice Al ls.length cl] 26)).alloc (.cells #[.slice Ar rs.length cr] 26))
    (blk_old (blk_new w _) _) (by have := blk_new (w.alloc (.cells #[.slice Al ls.length cl] 26)) (.cells #[.slice Ar rs.length cr] 26); simpa using this)
    ((zl.below hb (Nat.le_refl _)).more (by simp; omega)) ((zr.below hb (Nat.le_refl _)).more (by simp; omega)) el er ml mr
  have H := Lib.hid h; clear h
  have HB := Lib.hid hb; clear hb zl zr el er
  go_enter Try.func27, Try.ntmps27
  go_wp2_with (go_at_call 36; refine (Calls.mono H.out ?_); rintro e w1 ⟨vM, vN, rfl, hb1, hp⟩)
  go_ret2
  exact ⟨vM, vN, rfl, HB.out.trans (hb1.mono HB.out.size), hp⟩
theorem ints_zero {w : World} {B g : Nat} {k : IntKind} {N : List Int} (h : IntsAt w B k (some ⟨g, 0, none⟩) N) (hn : 0 < N.length) : w.cell? ⟨g, 0, none⟩ = some (.int k (N.getD 0 0)) := by
  obtain ⟨b, o, he, _, hc⟩ := h hn
  injection he with he
  injection he with h1 h2
  subst h1 h2
  exact hc 0 hn
/-- What the thin package hands back of a merging. -/
def PgPost (w' : World) (vM vN : Value) (ok : Bool) : Option (List Int × List Int) → Prop
  | some (M, N) => ok = true ∧ ∃ A c A' c', vM = .slice A M.length c ∧ vN = .slice A' N.length c' ∧ IntsAt w' w'.heap.size .i32 A M ∧ IntsAt w' w'.heap.size .u32 A' N
  | none => ok = false
/-- An instruction of the merging is one of the two. -/
theorem goM_mem (lp rp : Int) : ∀ (f : Nat) (M N l r : List Int) (M' N' : List Int), goM lp rp f M N l r = some (M', N') → (∀ x ∈ N, x = lp ∨ x = rp) → ∀ x ∈ N', x = lp ∨ x = rp
  | 0, M, N, l, r, M', N', h, hN => by simp only [goM, Option.some.injEq, Prod.mk.injEq] at h; rw [← h.2]; exact hN
  | f + 1, M, N, l, r, M', N', h, hN => by
    have hl : ∀ x ∈ N ++ [lp], x = lp ∨ x = rp := fun x hx => by
      rcases List.mem_append.1 hx with h | h
      · exact hN x h
      · exact Or.inl (by simpa using h)
    have hr : ∀ x ∈ N ++ [rp], x = lp ∨ x = rp := fun x hx => by
      rcases List.mem_append.1 hx with h | h
      · exact hN x h
      · exact Or.inr (by simpa using h)
    unfold goM at h
    split at h
    · split at h
      · cases h
      · exact goM_mem lp rp f _ _ _ _ _ _ h hl
    · split at h
      · cases h
      · exact goM_mem lp rp f _ _ _ _ _ _ h hr
    · split at h
      · split at h
        · cases h
        · exact goM_mem lp rp f _ _ _ _ _ _ h hr
      · split at h
        · cases h
        · exact goM_mem lp rp f _ _ _ _ _ _ h hl
    · simp only [Option.some.injEq, Prod.mk.injEq] at h; rw [← h.2]; exact hN
set_option maxRecDepth 100000 in
set_option maxHeartbeats 4000000 in
theorem pgmerge_any (cl cr : Nat) (Al Ar : Option Addr) (ls rs : List Int) (lp rp : Int) (w : World) {B : Nat} (hB : B ≤ w.heap.size)
    (zl : IntsAt w B .i32 Al ls) (zr : IntsAt w B .i32 Ar rs) (kl : clsF (-1) ls = true) (kr : clsF (-1) rs = true) (ml : ls.length ≤ 200) (mr : rs.length ≤ 200) (hl : lp ≠ 4294967295) (hr : rp ≠ 4294967295) :
    Calls Try.prog 14 #[.slice Al ls.length cl, .slice Ar rs.length cr, .int .u32 lp, .int .u32 rp] w fun e w' => ∃ vM vN ok, e = .returned (.tuple #[vM, vN, .bool ok]) ∧ Below w.heap.size w w' ∧ PgPost w' vM vN ok (goM lp rp (ls.length + rs.length) [] [] ls rs) := by
  have P1 := Lib.hid (pairs_any Al cl ls w (by omega) zl)
  have P2 := fun (q : Nat) => Lib.hid (pairs_any Ar cr rs (w.drewN q) (by omega) (zr.drewN q))
  have KL := Lib.hid kl
  have KR := Lib.hid kr
  have HZL := Lib.hid zl
  have HZR := Lib.hid zr
  have EL := Lib.hid (clsF_even ls _ kl)
  have ER := Lib.hid (clsF_even rs _ kr)
  have t1 : (lp == 4294967295) = false := by simpa using hl
  have t2 : (rp == 4294967295) = false := by simpa using hr
  clear zl zr kl kr
  cases hg : goM lp rp (ls.length + rs.length) [] [] ls rs with
  | none =>
    have HG := Lib.hid hg; clear hg
    go_enter Try.func14, Try.ntmps14
    go_wp2_with (first
      | (go_at_call_of 26 (Value.slice Al ls.length cl); refine (Calls.mono P1.out ?_); rintro e w1 ⟨rfl, q1, rfl⟩; rw [KL.out])
      | (go_at_call 26; refine (Calls.mono (P2 _).out ?_); rintro e w2 ⟨rfl, q2, rfl⟩; rw [KR.out])
      | (at_builtin; refine wp_appnil Al cl ls _ (B := B) (k := .i32) rfl (.tmp 28) 26 rfl 21 4 (by kernel_rfl) (by kernel_rfl) rfl (HZL.out.drewN _) (by unfold maxLen; omega) (by omega) ?_; intro A1 k1 w3 hz1 hb1; have HZ1 := Lib.hid hz1; have HB1 := Lib.hid (show Below w.heap.size w w3 from (below_drewN (Below.refl w.heap.size w) _).trans hb1); clear hz1 hb1)
      | (at_builtin; refine wp_appnil Ar cr rs _ (B := B) (k := .i32) rfl (.tmp 30) 26 rfl 21 4 (by kernel_rfl) (by kernel_rfl) rfl (HZR.out.below HB1.out hB) (by unfold maxLen; omega) (by omega) ?_; intro A2 k2 w4 hz2 hb2; have HZ2 := Lib.hid hz2; have HZ3 := Lib.hid ((HZ1.out.below hb2 (Nat.le_refl _)).more hb2.size); have HB2 := Lib.hid (HB1.out.trans (hb2.mono HB1.out.size)); clear hz2 hb2)
      | (go_at_call 27; refine (Calls.mono (zzmerge_any k1 k2 A1 A2 ls rs lp rp w4 HZ3.out HZ2.out EL.out ER.out ml mr) ?_); rintro e w5 ⟨vM, vN, rfl, hb3, hp⟩; rw [HG.out] at hp; obtain ⟨AM, gn, rfl, rfl, hc0, hlt0⟩ := hp; have HB3 := Lib.hid (HB2.out.trans (hb3.mono HB2.out.size)); clear hb3))
    go_ret3
    exact ⟨_, _, false, rfl, HB3.out, rfl⟩
  | some MN =>
    obtain ⟨M, N⟩ := MN
    have hmem := goM_mem lp rp _ _ _ _ _ _ _ hg (by simp)
    have HG := Lib.hid hg; clear hg
    by_cases hn0 : N.length = 0
    · have hN : N = [] := List.length_eq_zero_iff.1 hn0
      subst hN
      clear hmem hn0
      go_enter Try.func14, Try.ntmps14
      go_wp2_with (first
        | (go_at_call_of 26 (Value.slice Al ls.length cl); refine (Calls.mono P1.out ?_); rintro e w1 ⟨rfl, q1, rfl⟩; rw [KL.out])
        | (go_at_call 26; refine (Calls.mono (P2 _).out ?_); rintro e w2 ⟨rfl, q2, rfl⟩; rw [KR.out])
        | (at_builtin; refine wp_appnil Al cl ls _ (B := B) (k := .i32) rfl (.tmp 28) 26 rfl 21 4 (by kernel_rfl) (by kernel_rfl) rfl (HZL.out.drewN _) (by unfold maxLen; omega) (by omega) ?_; intro A1 k1 w3 hz1 hb1; have HZ1 := Lib.hid hz1; have HB1 := Lib.hid (show Below w.heap.size w w3 from (below_drewN (Below.refl w.heap.size w) _).trans hb1); clear hz1 hb1)
        | (at_builtin; refine wp_appnil Ar cr rs _ (B := B) (k := .i32) rfl (.tmp 30) 26 rfl 21 4 (by kernel_rfl) (by kernel_rfl) rfl (HZR.out.below HB1.out hB) (by unfold maxLen; omega) (by omega) ?_; intro A2 k2 w4 hz2 hb2; have HZ2 := Lib.hid hz2; have HZ3 := Lib.hid ((HZ1.out.below hb2 (Nat.le_refl _)).more hb2.size); have HB2 := Lib.hid (HB1.out.trans (hb2.mono HB1.out.size)); clear hz2 hb2)
        | (go_at_call 27; refine (Calls.mono (zzmerge_any k1 k2 A1 A2 ls rs lp rp w4 HZ3.out HZ2.out EL.out ER.out ml mr) ?_); rintro e w5 ⟨vM, vN, rfl, hb3, hp⟩; rw [HG.out] at hp; obtain ⟨gM, kM, gN, kN, rfl, rfl, hzM, hzN⟩ := hp; have HZM := Lib.hid hzM; have HZN := Lib.hid hzN; clear hzM hzN; have HB3 := Lib.hid (HB2.out.trans (hb3.mono HB2.out.size)); clear hb3))
      go_ret3
      exact ⟨_, _, true, rfl, HB3.out, rfl, _, _, _, _, rfl, rfl, HZM.out, HZN.out⟩
    · have hx : N.getD 0 0 ≠ 4294967295 := by
        have : N.getD 0 0 ∈ N := by
          rw [List.getD_eq_getElem?_getD, List.getElem?_eq_getElem (show 0 < N.length by omega)]
          exact List.getElem_mem _
        rcases hmem _ this with h | h <;> rw [h] <;> assumption
      obtain ⟨x, hxx⟩ : ∃ x, N.getD 0 0 = x := ⟨_, rfl⟩
      rw [hxx] at hx
      have t3 : (x == 4294967295) = false := by simpa using hx
      obtain ⟨m, hm⟩ : ∃ m, N.length = m := ⟨_, rfl⟩
      have t4 : (0 : Int) < (m : Int) := by omega
      have t5 : 0 < m := by omega
      have HXX := Lib.hid hxx
      have HMM := Lib.hid hm
      clear hmem hn0 hxx hx hm
      go_enter Try.func14, Try.ntmps14
      go_wp2_with (first
        | (go_at_call_of 26 (Value.slice Al ls.length cl); refine (Calls.mono P1.out ?_); rintro e w1 ⟨rfl, q1, rfl⟩; rw [KL.out])
        | (go_at_call 26; refine (Calls.mono (P2 _).out ?_); rintro e w2 ⟨rfl, q2, rfl⟩; rw [KR.out])
        | (at_builtin; refine wp_appnil Al cl ls _ (B := B) (k := .i32) rfl (.tmp 28) 26 rfl 21 4 (by kernel_rfl) (by kernel_rfl) rfl (HZL.out.drewN _) (by unfold maxLen; omega) (by omega) ?_; intro A1 k1 w3 hz1 hb1; have HZ1 := Lib.hid hz1; have HB1 := Lib.hid (show Below w.heap.size w w3 from (below_drewN (Below.refl w.heap.size w) _).trans hb1); clear hz1 hb1)
        | (at_builtin; refine wp_appnil Ar cr rs _ (B := B) (k := .i32) rfl (.tmp 30) 26 rfl 21 4 (by kernel_rfl) (by kernel_rfl) rfl (HZR.out.below HB1.out hB) (by unfold maxLen; omega) (by omega) ?_; intro A2 k2 w4 hz2 hb2; have HZ2 := Lib.hid hz2; have HZ3 := Lib.hid ((HZ1.out.below hb2 (Nat.le_refl _)).more hb2.size); have HB2 := Lib.hid (HB1.out.trans (hb2.mono HB1.out.size)); clear hz2 hb2)
        | (go_at_call 27; refine (Calls.mono (zzmerge_any k1 k2 A1 A2 ls rs lp rp w4 HZ3.out HZ2.out EL.out ER.out ml mr) ?_); rintro e w5 ⟨vM, vN, rfl, hb3, hp⟩; rw [HG.out] at hp; obtain ⟨gM, kM, gN, kN, rfl, rfl, hzM, hzN⟩ := hp; have hcc := ints_zero hzN (by rw [HMM.out]; exact t5); rw [HXX.out] at hcc; rw [HMM.out]; have HZM := Lib.hid hzM; have HZN := Lib.hid hzN; clear hzM hzN; have HB3 := Lib.hid (HB2.out.trans (hb3.mono HB2.out.size)); clear hb3))
      go_ret3
      exact ⟨_, _, true, rfl, HB3.out, rfl, _, kM, _, kN, rfl, (by show Value.slice _ m kN = _; rw [HMM.out]), HZM.out, HZN.out⟩
end Go.Proofs.Ytholpemmakdglaa.Mem
