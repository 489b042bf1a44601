/- The thin package's writing of a template. -/
import Derived.Test.YtmgdlodnhmpbiaaDoorTpFFnTxTemplate
import Derived.Laws.MakeOwn
namespace Go.Proofs.YtmgdlodnhmpbiaaDoor.Tx
open Go.RowKit Go.Lib Ext Mem Go.Proofs.YtmgdlodnhmpbiaaDoor.PFnTxTemplate Go.Proofs.YtmgdlodnhmpbiaaDoorW.PrintWords Go.Proofs.YtmgdlodnhmpbiaaDoorW.PrintLast Go.Proofs.YtmgdlodnhmpbiaaDoorW.PrintMore
set_option linter.unusedVariables false
set_option maxRecDepth 100000 in
set_option maxHeartbeats 4000000 in
theorem expS_c (re v0 : Value) (T src : ByteArray) (A : Option Addr) (cap : Nat) (M : List Int) (base : Nat) (d0 o0 : List UInt8) (w : World)
    (hT : ∀ w', Below base w w' → UTabs w') (hbase : base ≤ w.heap.size) (hown : OwnB w base v0 d0) (hM : IntsAt w base .i64 A M) (hP : PairsOf M src.size) (hex : Ex (grpL src M) T.data.toList o0)
    (hm : T.size ≤ 2147483647) (hs : src.size ≤ 2147483647) (hml : M.length ≤ 2147483647) (ho : d0.length + o0.length ≤ 4398046511104) :
    Calls Tryd.prog 25 #[re, v0, .string T, .string src, .slice A M.length cap] w fun e w' =>
      ∃ v', e = .returned v' ∧ OwnB w' base v' (d0 ++ o0) ∧ Below base w w' := by
  have H := Lib.hid (expand_c re v0 T src A cap M base d0 o0 w hT hbase hown hM hP hex hm hs hml ho)
  clear hT hown hM hP hex
  go_enter Tryd.func25, Tryd.ntmps25
  go_wp2_with (go_at_call 49; refine (Calls.mono H.out ?_); rintro e w1 ⟨v', rfl, ho', hb'⟩; have HO := Lib.hid ho'; have HB := Lib.hid hb'; clear ho' hb')
  go_ret
  exact ⟨_, rfl, HO.out, HB.out⟩
set_option maxRecDepth 100000 in
set_option maxHeartbeats 4000000 in
theorem named_c (A : Option Addr) (n c : Nat) (hn : n ≤ 1000) (w : World) :
    Calls Tryd.prog 24 #[.slice A n c] w fun e w' => ∃ p, e = .returned p ∧ Below w.heap.size w w' := by
  go_enter Tryd.func24, Tryd.ntmps24
  go_wp2
  go_ret
  exact ⟨_, rfl, (Below.refl _ _).alloc (Nat.le_refl _) _⟩
theorem mkB : ∀ w : World, (Instr.makeSlice 30 (.int .i64 0) (.int .i64 0)).run Tryd.prog w = .ok (.slice (some ⟨w.heap.size, 0, none⟩) 0 0) (w.alloc (.cells #[] 5)) := fun w => by
  obtain ⟨i0, hi0, hz0, hz1, hz2⟩ := info_parts info_b
  have h := run_make w 30 5 i0 (.int .u8 0) Tryd.underlying30 hi0 hz0 .i64 .i64 0 0 (by omega) (by omega) (by omega) (by omega)
  rw [show (0 : Int).toNat * i0.size = 0 by simp, show madeCells (Value.int .u8 0).cells 0 = #[] from (by apply Array.eq_empty_of_size_eq_zero; simp [madeCells])] at h
  exact h
/-- 'append(v, nil...)'. -/
theorem wp_noneB {w : World} {base : Nat} {v : Value} {l : List UInt8} {ops : Array Oper} {rest : List Oper} {o : Oper} {a : Act} {Q : Exit → Act → World → Prop} (hgd : o.guard = none) (sl x : Operand)
    (ho : o.op = .call { callee := .builtin .append, args := #[sl, x], argTypes := #[30, 30] })
    (hs : a.eval sl = v) (hown : OwnB w base v l) (hx : a.eval x = .slice none 0 0)
    (h : wpList Tryd.prog ops Q rest (a.put o.dst v) w) : wpList Tryd.prog ops Q (o :: rest) a w := by
  obtain ⟨i0, hi0, hz0, hz1, hz2⟩ := info_parts info_b
  refine wpList_plain hgd fun K hK => ?_
  have hr := run_append_owned_none (P := Tryd.prog) w base 30 o.type 5 i0 1 Tryd.underlying30 hi0 v l.length (bcs l) hown
  unfold Oper.wp execOp
  simp only [ho, resolve, invoke, builtin, Sem.run_bind, Sem.run_pure, Result.andThen_ok, List.map_toArray, List.map_cons, List.map_nil, hs, hx, hr]
  exact hK _ _ h
/-- 'append([]string(nil), x...)', x one string. -/
theorem wp_names {w : World} {ops : Array Oper} {rest : List Oper} {o : Oper} {a : Act} {Q : Exit → Act → World → Prop} (hgd : o.guard = none) (x : Operand)
    (ho : o.op = .call { callee := .builtin .append, args := #[.const (.slice none 0 0), x], argTypes := #[22, 22] })
    (g : Nat) (s : ByteArray) (hc : w.cell? ⟨g, 0, none⟩ = some (.string s)) (hx : a.eval x = .slice (some ⟨g, 0, none⟩) 1 1)
    (h : ∀ A c w', Below w.heap.size w w' → wpList Tryd.prog ops Q rest (a.put o.dst (.slice A 1 c)) w') : wpList Tryd.prog ops Q (o :: rest) a w := by
  obtain ⟨i0, hi0, hz0, hz1, hz2⟩ := info_parts (show (Tryd.prog.info? 9).map (fun i => (i.zero, i.size, i.bytes)) = some (some (.string ByteArray.empty), 1, 16) by kernel_rfl)
  refine wpList_append_own _ hgd (.const (.slice none 0 0)) x 22 ho w.heap.size 9 i0 (.string ByteArray.empty) 1 16 Tryd.underlying22 hi0 hz0 hz1 hz2 rfl (by omega) (.slice none 0 0) 0 [] rfl (World.ownsRow_nil _ _ _ _) ⟨g, 0, none⟩ 1 1 [.string s] hx rfl ?_ (by intro u hu; simp at hu; subst hu; rfl) (by simp [maxLen]) (by omega) (Nat.le_refl _) ?_
  · intro j u hj
    cases j with
    | zero =>
      simp at hj
      subst hj
      have : (⟨g, 0, none⟩ : Addr).add 0 = ⟨g, 0, none⟩ := by simp [Addr.add]
      rw [this]
      exact hc
    | succ j => simp at hj
  · intro v' w' ho' hg _
    obtain ⟨g', c', hv, _, _⟩ := ho'.form (by omega)
    subst hv
    exact h _ _ _ ((Below.refl _ _).grown hg (Nat.le_refl _) fun k hk => by simp [Value.ownBlock] at hk)
set_option maxRecDepth 100000 in
set_option maxHeartbeats 8000000 in
theorem txE_c (g : Nat) (T src : ByteArray) (A : Option Addr) (cap : Nat) (M : List Int) (o0 : List UInt8) (w : World)
    (hT : UTabs w) (hg : w.cell? ⟨g, 0, none⟩ = some (.string ByteArray.empty)) (hM : IntsAt w w.heap.size .i64 A M) (hP : PairsOf M src.size) (hex : Ex (grpL src M) T.data.toList o0)
    (hpl : Calls Tryd.prog 23 #[.slice A M.length cap, .int .i64 src.size] w fun e w' => e = .returned (.bool true) ∧ Below w.heap.size w w')
    (hm : T.size ≤ 2147483647) (hs : src.size ≤ 2147483647) (hml : M.length ≤ 2147483647) (ho : o0.length ≤ 4398046511104) :
    Calls Tryd.prog 11 #[.slice (some ⟨g, 0, none⟩) 1 1, .slice none 0 0, .string T, .string src, .slice A M.length cap, .int .i64 0] w fun e w' =>
      ∃ v', e = .returned (.tuple #[v', .bool true]) ∧ OwnB w' w.heap.size v' o0 ∧ Below w.heap.size w w' := by
  have HT := Lib.hid hT; clear hT
  have HP := Lib.hid hP; clear hP
  have HX := Lib.hid hex; clear hex
  have HM := Lib.hid hM; clear hM
  have HPL := Lib.hid hpl; clear hpl
  have HG := Lib.hid hg; clear hg
  have HMK := Lib.hid mkB
  go_enter Tryd.func11, Tryd.ntmps11
  go_wp2_with (first
    | (go_at_call 23; refine (Calls.mono HPL.out ?_); rintro e w1 ⟨rfl, hb1⟩; have HB1 := Lib.hid hb1; clear hb1; have hc1 := (cell_below HB1.out HG.out))
    | (at_builtin; refine wp_names rfl _ rfl g ByteArray.empty hc1 rfl ?_; intro A2 c2 w2 hb2; have HB2 := Lib.hid (HB1.out.trans (hb2.mono HB1.out.size)); clear hb2 hc1)
    | (go_at_call 24; refine (Calls.mono (named_c _ _ _ (by omega) _) ?_); rintro e w3 ⟨p, rfl, hb3⟩; have HB3 := Lib.hid (HB2.out.trans (hb3.mono HB2.out.size)); clear hb3; have hmk := HMK.out w3)
    | (go_at_call 25; refine (Calls.mono (expS_c p _ T src A cap M w.heap.size [] o0 _ (fun w' h => HT.out.below ((HB3.out.alloc HB3.out.size _).trans h)) (HB3.out.alloc HB3.out.size _).size (World.ownsRow_lit w3 #[] 0 HB3.out.size (by simp [maxLen]) rfl) (HM.out.below (HB3.out.alloc HB3.out.size _) (Nat.le_refl _)) HP.out HX.out hm hs hml (by simpa using ho)) ?_); rintro e w4 ⟨v4, rfl, ho4, hb4⟩; have HB4 := Lib.hid ((HB3.out.alloc HB3.out.size _).trans hb4); have HO4 := Lib.hid ho4; clear hb4 ho4))
  go_ret2
  exact ⟨_, rfl, HO4.out, HB4.out⟩
end Go.Proofs.YtmgdlodnhmpbiaaDoor.Tx
