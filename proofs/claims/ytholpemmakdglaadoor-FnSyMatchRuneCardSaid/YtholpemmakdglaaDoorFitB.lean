/- The thin package's copy of an instruction of characters: its list appended to nil.  -/
import Derived.Test.YtholpemmakdglaaDoorFit
import Derived.StillTailTactics
import Derived.Deep.Upon
import Derived.Deep.RegionHeld3
namespace Go.Proofs.YtholpemmakdglaaDoor.Mem
open Go.RowKit Fold
set_option linter.unusedVariables false
section
variable (A : Option Addr) (cap : Nat) (zs : List Int) (w : World) {B : Nat}
/-- 'append([]T(nil), x...)', the elements whole numbers: a copy in a row of the call's own. -/
theorem run_appnil {P : Program} {k : IntKind} (t ty : TypeId) (e : TypeId) (bytes : Nat) (ht : P.underlying t = some (.slice e)) (hi : (P.info? e).map (fun i => (i.zero, i.size, i.bytes)) = some (some (.int k 0), 1, bytes))
    (hz : IntsAt w B k A zs) (h63 : zs.length ≤ maxLen) (hbytes : zs.length * bytes ≤ 140737488355328) :
    ∃ A' c' w', (Builtin.append_ #[t, t] ty #[.slice none 0 0, .slice A zs.length cap]).run P w = .ok (.slice A' zs.length c') w' ∧ IntsAt w' w'.heap.size k A' zs ∧ (∀ b o m, 0 < zs.length → A' = some ⟨b, o, m⟩ → w.heap.size ≤ b) ∧ Below w.heap.size w w' := by
  obtain ⟨i0, hi0, hz0, hz1, hz2⟩ := info_parts hi
  by_cases h0 : zs.length = 0
  · have hzs : zs = [] := List.length_eq_zero_iff.mp h0
    subst hzs
    have hsrc : Src P i0.size t (.slice A 0 cap) 0 [] w := by
      cases A with
      | none => exact Src.ofNil w ht cap
      | some ad => exact Src.ofSlice w ht ad 0 cap [] (by simp) (by simp) (by simp)
    exact ⟨none, 0, w, run_append_nothing (P := P) w t t ty e i0 ht hi0 none 0 0 (Nat.le_refl _) _ hsrc, fun h => absurd h (by simp), fun _ _ _ h => absurd h (by simp), Below.refl _ _⟩
  · obtain ⟨b, off, rfl, hb, hc⟩ := hz (by omega)
    obtain ⟨v', w', hr, ho', hg, -⟩ := run_append_own (P := P) w w.heap.size t ty e i0 (.int k 0) 1 bytes ht hi0 hz0 hz1 hz2 rfl (by omega) (.slice none 0 0) 0 [] (World.ownsRow_nil _ _ _ _) ⟨b, off, none⟩ zs.length cap (zs.map (Value.int k)) (by simp) (by
      intro j u hj
      have hj' : j < zs.length := by
        rcases Nat.lt_or_ge j zs.length with h | h
        · exact h
        · rw [List.getElem?_eq_none (by simpa using h)] at hj; cases hj
      rw [Addr.add_lit, hc j hj']
      simpa [List.getD_eq_getElem?_getD, List.getElem?_eq_getElem hj'] using hj) (by simp [Value.oneCell']) (by simpa using h63) (by simpa using hbytes) (Nat.le_refl _)
    simp only [Nat.zero_add, List.nil_append] at ho'
    have hl : 0 < zs.length := by omega
    obtain ⟨g, c', hv, hge, hlt⟩ := ho'.form hl
    subst hv
    exact ⟨_, _, w', hr, IntsAt.own ho', fun b o m _ e => by injection e with e; injection e with e; omega, (Below.refl _ _).grown hg (Nat.le_refl _) fun k hk => by simp [Value.ownBlock] at hk⟩
theorem step_appnil {P : Program} {ops : Array Oper} {o : Oper} {a : Act} {K : Act → World → Prop} {Q : Exit → Act → World → Prop} {E : Prop} {k : IntKind} (hgd : o.guard = none) (x : Operand) (t : TypeId)
    (ho : o.op = .call { callee := .builtin .append, args := #[.const (.slice none 0 0), x], argTypes := #[t, t] })
    (e : TypeId) (bytes : Nat) (ht : P.underlying t = some (.slice e)) (hi : (P.info? e).map (fun i => (i.zero, i.size, i.bytes)) = some (some (.int k 0), 1, bytes))
    (hx : a.eval x = .slice A zs.length cap) (hz : IntsAt w B k A zs) (h63 : zs.length ≤ maxLen) (hbytes : zs.length * bytes ≤ 140737488355328)
    (h : ∀ A' c' w', IntsAt w' w'.heap.size k A' zs → (∀ b o m, 0 < zs.length → A' = some ⟨b, o, m⟩ → w.heap.size ≤ b) → Below w.heap.size w w' → K (a.put o.dst (.slice A' zs.length c')) w') :
    if Region.wanted o (yielded ops a.tmps) = true then Oper.wp P o a w K Q else E := by
  have hw : Region.wanted o (yielded ops a.tmps) = true := by simp [Region.wanted, hgd]
  rw [if_pos hw]
  obtain ⟨A', c', w', hr, h1, h2, h3⟩ := run_appnil A cap zs w (P := P) t o.type e bytes ht hi hz h63 hbytes
  have he : a.eval (.const (.slice none 0 0)) = .slice none 0 0 := rfl
  unfold Oper.wp execOp
  simp only [ho, resolve, invoke, builtin, Sem.run_bind, Sem.run_pure, Result.andThen_ok, List.map_toArray, List.map_cons, List.map_nil, he, hx, hr]
  exact h A' c' w' h1 h2 h3
set_option maxRecDepth 100000 in
set_option maxHeartbeats 2000000 in
theorem instOf_any (arg : Int) (ha : arg = 0 ∨ arg = 1) (hm : zs.length ≤ 1000000) (hz : IntsAt w B .i32 A zs) (hB : B ≤ w.heap.size) :
    Calls Tryd.prog 32 #[.agg #[.int .i64 7, .int .i64 0, .int .i64 arg, .slice A zs.length cap]] w fun e w' => ∃ A' c', e = .returned (.agg #[.int .u8 7, .int .u32 0, .int .u32 arg, .slice A' zs.length c']) ∧ IntsAt w' w'.heap.size .i32 A' zs ∧ Below w.heap.size w w' := by
  have hres : Tryd.f32.results = #[.cell 2 58] := by kernel_rfl
  go_enter Tryd.func32, Tryd.ntmps32
  go_wp2_with fail
  have hbw : Below w.heap.size w ((w.alloc (.cells #[.int .i64 7, .int .i64 0, .int .i64 arg, .slice A zs.length cap] 31)).alloc (.cells #[.int .u8 0, .int .u32 0, .int .u32 0, .slice none 0 0] 58)) := ((Below.refl _ _).alloc (Nat.le_refl _) _).alloc (by simp) _
  have c0 : ((w.alloc (.cells #[.int .i64 7, .int .i64 0, .int .i64 arg, .slice A zs.length cap] 31)).alloc (.cells #[.int .u8 0, .int .u32 0, .int .u32 0, .slice none 0 0] 58)).cell? ⟨w.heap.size, 0, none⟩ = some (.int .i64 7) := by simp
  have c1 : ((w.alloc (.cells #[.int .i64 7, .int .i64 0, .int .i64 arg, .slice A zs.length cap] 31)).alloc (.cells #[.int .u8 0, .int .u32 0, .int .u32 0, .slice none 0 0] 58)).cell? ⟨w.heap.size, 1, none⟩ = some (.int .i64 0) := by simp
  have c2 : ((w.alloc (.cells #[.int .i64 7, .int .i64 0, .int .i64 arg, .slice A zs.length cap] 31)).alloc (.cells #[.int .u8 0, .int .u32 0, .int .u32 0, .slice none 0 0] 58)).cell? ⟨w.heap.size, 2, none⟩ = some (.int .i64 arg) := by simp
  have c3 : ((w.alloc (.cells #[.int .i64 7, .int .i64 0, .int .i64 arg, .slice A zs.length cap] 31)).alloc (.cells #[.int .u8 0, .int .u32 0, .int .u32 0, .slice none 0 0] 58)).cell? ⟨w.heap.size, 3, none⟩ = some (.slice A zs.length cap) := by simp
  have d0 : ((w.alloc (.cells #[.int .i64 7, .int .i64 0, .int .i64 arg, .slice A zs.length cap] 31)).alloc (.cells #[.int .u8 0, .int .u32 0, .int .u32 0, .slice none 0 0] 58)).cell? ⟨w.heap.size + 1, 0, none⟩ = some (.int .u8 0) := by simp
  have f0 : ((w.alloc (.cells #[.int .i64 7, .int .i64 0, .int .i64 arg, .slice A zs.length cap] 31)).alloc (.cells #[.int .u8 0, .int .u32 0, .int .u32 0, .slice none 0 0] 58)).frozen? ⟨w.heap.size + 1, 0, none⟩ = false := by simp
  have d1 : ((w.alloc (.cells #[.int .i64 7, .int .i64 0, .int .i64 arg, .slice A zs.length cap] 31)).alloc (.cells #[.int .u8 0, .int .u32 0, .int .u32 0, .slice none 0 0] 58)).cell? ⟨w.heap.size + 1, 1, none⟩ = some (.int .u32 0) := by simp
  have f1 : ((w.alloc (.cells #[.int .i64 7, .int .i64 0, .int .i64 arg, .slice A zs.length cap] 31)).alloc (.cells #[.int .u8 0, .int .u32 0, .int .u32 0, .slice none 0 0] 58)).frozen? ⟨w.heap.size + 1, 1, none⟩ = false := by simp
  have d2 : ((w.alloc (.cells #[.int .i64 7, .int .i64 0, .int .i64 arg, .slice A zs.length cap] 31)).alloc (.cells #[.int .u8 0, .int .u32 0, .int .u32 0, .slice none 0 0] 58)).cell? ⟨w.heap.size + 1, 2, none⟩ = some (.int .u32 0) := by simp
  have f2 : ((w.alloc (.cells #[.int .i64 7, .int .i64 0, .int .i64 arg, .slice A zs.length cap] 31)).alloc (.cells #[.int .u8 0, .int .u32 0, .int .u32 0, .slice none 0 0] 58)).frozen? ⟨w.heap.size + 1, 2, none⟩ = false := by simp
  have d3 : ((w.alloc (.cells #[.int .i64 7, .int .i64 0, .int .i64 arg, .slice A zs.length cap] 31)).alloc (.cells #[.int .u8 0, .int .u32 0, .int .u32 0, .slice none 0 0] 58)).cell? ⟨w.heap.size + 1, 3, none⟩ = some (.slice none 0 0) := by simp
  have f3 : ((w.alloc (.cells #[.int .i64 7, .int .i64 0, .int .i64 arg, .slice A zs.length cap] 31)).alloc (.cells #[.int .u8 0, .int .u32 0, .int .u32 0, .slice none 0 0] 58)).frozen? ⟨w.heap.size + 1, 3, none⟩ = false := by simp
  have hs : ((w.alloc (.cells #[.int .i64 7, .int .i64 0, .int .i64 arg, .slice A zs.length cap] 31)).alloc (.cells #[.int .u8 0, .int .u32 0, .int .u32 0, .slice none 0 0] 58)).heap.size = w.heap.size + 2 := by simp
  generalize ((w.alloc (.cells #[.int .i64 7, .int .i64 0, .int .i64 arg, .slice A zs.length cap] 31)).alloc (.cells #[.int .u8 0, .int .u32 0, .int .u32 0, .slice none 0 0] 58)) = W at *
  have HB := Lib.hid hbw; clear hbw
  have HZ := Lib.hid hz; clear hz
  have hr : ∀ n : Nat, Below W.heap.size W (W.drewN n) := fun n => below_drewN (Below.refl _ _) n
  go_region_held3 (fun w' => w'.cell? ⟨w.heap.size, 0, none⟩ = some (.int .i64 7) ∧ w'.cell? ⟨w.heap.size, 1, none⟩ = some (.int .i64 0) ∧ w'.cell? ⟨w.heap.size, 2, none⟩ = some (.int .i64 arg) ∧ w'.cell? ⟨w.heap.size, 3, none⟩ = some (.slice A zs.length cap)) (go_keep)
    ((refine step_appnil A cap zs _ (B := B) (k := .i32) rfl (.tmp 25) 22 rfl 21 4 (by kernel_rfl) (by kernel_rfl) (by simp [Act.eval]) (IntsAt.drewN (HZ.out.below HB.out hB) 1) (by simp [maxLen]; omega) (by omega) ?_; intro A' c' w' hz' hfr hb'; have e0 := hb'.cell (p := ⟨w.heap.size + 1, 0, none⟩) (by show w.heap.size + 1 < W.heap.size; omega); replace e0 := e0.trans d0; have g0 := (hb'.frozen (p := ⟨w.heap.size + 1, 0, none⟩) (by show w.heap.size + 1 < W.heap.size; omega)).trans f0; have e1 := hb'.cell (p := ⟨w.heap.size + 1, 1, none⟩) (by show w.heap.size + 1 < W.heap.size; omega); replace e1 := e1.trans d1; have g1 := (hb'.frozen (p := ⟨w.heap.size + 1, 1, none⟩) (by show w.heap.size + 1 < W.heap.size; omega)).trans f1; have e2 := hb'.cell (p := ⟨w.heap.size + 1, 2, none⟩) (by show w.heap.size + 1 < W.heap.size; omega); replace e2 := e2.trans d2; have g2 := (hb'.frozen (p := ⟨w.heap.size + 1, 2, none⟩) (by show w.heap.size + 1 < W.heap.size; omega)).trans f2; have e3 := hb'.cell (p := ⟨w.heap.size + 1, 3, none⟩) (by show w.heap.size + 1 < W.heap.size; omega); replace e3 := e3.trans d3; have g3 := (hb'.frozen (p := ⟨w.heap.size + 1, 3, none⟩) (by show w.heap.size + 1 < W.heap.size; omega)).trans f3; have k0 := (hb'.cell (p := ⟨w.heap.size, 0, none⟩) (by show w.heap.size < W.heap.size; omega)).trans c0; have k1 := (hb'.cell (p := ⟨w.heap.size, 1, none⟩) (by show w.heap.size < W.heap.size; omega)).trans c1; have k2 := (hb'.cell (p := ⟨w.heap.size, 2, none⟩) (by show w.heap.size < W.heap.size; omega)).trans c2; have k3 := (hb'.cell (p := ⟨w.heap.size, 3, none⟩) (by show w.heap.size < W.heap.size; omega)).trans c3))

  go_wp2_with fail
  all_goals go_wp2
  all_goals refine bodyPost_ret (by simp [results, go_sem, e0, e1, e2, e3]; try rfl) rfl ?_
  all_goals
    refine ⟨A', c', by rcases ha with rfl | rfl <;> rfl, ?_, ?_⟩
    · intro hn
      obtain ⟨b, o, rfl, hb, hc⟩ := hz' hn
      have hge : W.heap.size ≤ b := hfr b o none hn rfl
      refine ⟨b, o, rfl, by simpa using hb, fun j hj => ?_⟩
      have hne : b ≠ w.heap.size + 1 := by omega
      rw [← hc j hj]
      simp [World.cell?, World.setCell, Array.getElem?_modify, Ne.symm hne]
    · refine HB.out.trans (Below.trans (Below.mono (below_drewN (Below.refl _ _) 1) (Nat.le_refl _)) ?_)
      have hb2 : Below w.heap.size (W.drewN 1) w' := Below.mono hb' (by show w.heap.size ≤ W.heap.size; omega)
      exact ((((hb2.setCell (by simp) _).setCell (by simp) _).setCell (by simp) _).setCell (by simp) _)
end
end Go.Proofs.YtholpemmakdglaaDoor.Mem
