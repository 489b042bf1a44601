/- The package's program: what a skip of instructions that do nothing comes to; a builder to which characters are written. The package's literal text at a program's head: the walk of 'Prefix'. The package's literal text at a program's head: the walk of 'Prefix'. -/
import Derived.Test.YtmgdlodnhmpbiaaDoorPsA2FnSyPrefix
import Derived.Test.YtmgdlodnhmpbiaaDoorShelfP
import Derived.Lib.Builder
import Derived.Lib.MapLaws
namespace Go.Proofs.YtmgdlodnhmpbiaaDoor.Ps
open Go.RowKit Mem Go.Proofs.YtmgdlodnhmpbiaaDoor.PFnSyPrefix Go.Proofs.YtmgdlodnhmpbiaaDoorW.PrintWords Go.Proofs.YtmgdlodnhmpbiaaDoorW.PrintLast Go.Proofs.YtmgdlodnhmpbiaaDoorW.PrintMore
set_option linter.unusedVariables false
def skipF : Nat → List In → Nat → Option Nat
  | 0, _, _ => none
  | k + 1, K, pc => if (inAt K pc).f0 = 6 ∨ (inAt K pc).f0 = 2 then skipF k K (inAt K pc).f1.toNat else some pc
theorem PF.cells {w0 w : World} {bP : Nat} {start ncap : Int} {vI : Value} {R : List Value} {K : List In} (h : PF w0 w bP start ncap vI R K) {g : Nat} {c : Nat} (hv : vI = .slice (some ⟨g, 0, none⟩) K.length c) {pc : Nat} (hp : pc < K.length) :
    w.cell? ⟨g, pc * 4, none⟩ = some (.int .u8 (inAt K pc).f0) ∧ w.cell? ⟨g, pc * 4 + 1, none⟩ = some (.int .u32 (inAt K pc).f1) ∧ w.cell? ⟨g, pc * 4 + 2, none⟩ = some (.int .u32 (inAt K pc).f2) ∧ w.cell? ⟨g, pc * 4 + 3, none⟩ = some (R.getD pc (.slice none 0 0)) := by
  subst hv
  obtain ⟨h0, h1, h2, h3⟩ := cellsK_at K R h.rl pc hp
  exact ⟨by rw [h.own.cellAt _ (by omega)]; exact h0, by rw [h.own.cellAt _ (by omega)]; exact h1, by rw [h.own.cellAt _ (by omega)]; exact h2, by rw [h.own.cellAt _ (by omega)]; exact h3⟩
theorem PF.form {w0 w : World} {bP : Nat} {start ncap : Int} {vI : Value} {R : List Value} {K : List In} (h : PF w0 w bP start ncap vI R K) (hK : 0 < K.length) : ∃ g c, vI = .slice (some ⟨g, 0, none⟩) K.length c := by
  rcases h.own.2 with ⟨_, h0⟩ | ⟨g, c, cur, hv, _⟩
  · omega
  · exact ⟨g, c, hv⟩
section
variable (K : List In) (w0 : World) (bP : Nat) (start ncap : Int) (g cI : Nat) (R : List Value)
set_option maxRecDepth 100000 in
set_option maxHeartbeats 4000000 in
theorem skip_c (w : World) (h : PF w0 w bP start ncap (.slice (some ⟨g, 0, none⟩) K.length cI) R K) (hO : OutOk K) (hK : K.length ≤ 500) (pc : Nat) (hp : pc < K.length) (k : Nat) (pc' : Nat) (hs : skipF k K pc = some pc') :
    Calls Tryd.prog 57 #[.pointer (some ⟨bP, 0, none⟩), .int .u32 pc] w fun e w' => e = .returned (.pointer (some ⟨g, pc' * 4, none⟩)) ∧ Below w.heap.size w w' ∧ pc' < K.length := by
  have HP := Lib.hid h; have HO := Lib.hid hO; have HS := Lib.hid hs
  have d0 : w.cell? ⟨bP, 0, none⟩ = some (.slice (some ⟨g, 0, none⟩) K.length cI) := by rw [cell_of_row w bP 0 _ _ _ h.blk]; rfl
  have hpi : (pc : Int) < (K.length : Int) := by omega
  clear h hO hs
  go_enter Tryd.func57, Tryd.ntmps57
  go_wp2_with fail
  go_loopg [5] k (fun gg s5 wx => ∃ q n : Nat, s5 = .pointer (some ⟨g, q * 4, none⟩) ∧ q < K.length ∧ wx = w.drewN n ∧ Hid (skipF gg K q = some pc'))
  case atStart => exact ⟨pc, 0, rfl, hp, rfl, HS⟩
  case round =>
    obtain ⟨q, n, rfl, hq, rfl, HS1⟩ := hrel
    have hgpos : gk ≠ 0 := fun e => by have := HS1.out; rw [e] at this; simp [skipF] at this
    obtain ⟨g', rfl⟩ : ∃ g', gk = g' + 1 := ⟨gk - 1, by omega⟩
    have hs1 := HS1.out
    simp only [skipF] at hs1
    obtain ⟨e0, e1, e2, e3⟩ := HP.out.cells rfl hq
    have hio := HO.out q hq
    generalize inAt K q = I at *
    obtain ⟨op, f1, f2, rs⟩ := I
    simp only at *
    have HIO := Lib.hid hio
    clear hio
    by_cases h6 : op = 6
    · have b6 : (op == 6) = true := by simp [h6]
      obtain ⟨o1, rfl⟩ : ∃ o1 : Nat, f1 = o1 := ⟨f1.toNat, by have := HIO.out; omega⟩
      have ho1 : o1 < K.length := by have := HIO.out; omega
      have ho1i : (o1 : Int) < (K.length : Int) := by omega
      rw [if_pos (Or.inl h6), Int.toNat_natCast] at hs1
      have HS2 := Lib.hid hs1
      clear hs1 h6 e2 e3
      go_upto_region 3 with fail
      go_quiet (fail)
      go_wp2_with fail
      go_roundg g'
      case rel => exact ⟨o1, n + nq, rfl, ho1, by simp [World.drewN, Nat.add_assoc], HS2⟩
      case measure => omega
    · have b6 : (op == 6) = false := by simp [h6]
      by_cases h2 : op = 2
      · have b2 : (op == 2) = true := by simp [h2]
        obtain ⟨o1, rfl⟩ : ∃ o1 : Nat, f1 = o1 := ⟨f1.toNat, by have := HIO.out; omega⟩
        have ho1 : o1 < K.length := by have := HIO.out; omega
        have ho1i : (o1 : Int) < (K.length : Int) := by omega
        rw [if_pos (Or.inr h2), Int.toNat_natCast] at hs1
        have HS2 := Lib.hid hs1
        clear hs1 h6 h2 e2 e3
        go_upto_region 3 with fail
        go_quiet (fail)
        go_wp2_with fail
        go_roundg g'
        case rel => exact ⟨o1, n + nq, rfl, ho1, by simp [World.drewN, Nat.add_assoc], HS2⟩
        case measure => omega
      · have b2 : (op == 2) = false := by simp [h2]
        rw [if_neg (fun h => h.elim h6 h2)] at hs1
        obtain rfl := Option.some.inj hs1
        clear hs1 h6 h2 e1 e2 e3
        go_wp2_with fail
        go_ret
        exact ⟨rfl, Mem.below_drewN (Below.refl _ _) n, hq⟩
end
theorem ownF_slice {w : World} {base n : Nat} {e : TypeId} {size : Nat} {v : Value} {xs : List Value} (h : w.ownsRowF base e size v n xs) : ∃ A c, v = .slice A n c := by
  rcases h.2 with ⟨rfl, rfl⟩ | ⟨g, cap, cur, fz, rfl, _⟩
  · exact ⟨none, 0, rfl⟩
  · exact ⟨_, _, rfl⟩
theorem bld_kept {w1 w2 : World} {b : Nat} {cs : Array Value} {t : TypeId} {v : Value} {o : Obj} (h : w1.heap[b]? = some (.cells cs t (0, 0))) (hne : v.ownBlock ≠ some b) (hg : (w1.alloc o).grownBy w2 v.ownBlock) : w2.heap[b]? = some (.cells cs t (0, 0)) :=
  Mem.blk_grown (Mem.blk_old h o) hg (fun e => hne e.symm)
section
variable (B b : Nat) (w : World)
set_option maxRecDepth 100000 in
set_option maxHeartbeats 2000000 in
theorem copyCheck_c (bs : List Value) (h : Lib.IsBuilderF 107 5 B b bs w) :
    Calls Tryd.prog 79 #[.pointer (some ⟨b, 0, none⟩)] w fun e w' => e = .returned (.tuple #[]) ∧ Lib.BuilderAtF 107 5 B b (.pointer (some ⟨b, 0, none⟩)) bs w' ∧ Below B w w' ∧ Lib.OthersKept 5 (some b) w w' := by
  have hsz : (Tryd.prog.info? 107).map (·.size) = some 2 := by kernel_rfl
  obtain ⟨j, hj, hjs⟩ := Option.map_eq_some_iff.1 hsz
  have hli : liesAt Tryd.prog Tryd.prog.depth 107 (2 / Tryd.prog.cellsOf 107) 0 107 1 = true := by kernel_rfl
  rcases h with h | h
  · have c0 := h.cell0
    have hsh := h.shape
    have hf := h.frozen0
    have HH := Lib.hid h
    clear h
    go_enter Tryd.func79, Tryd.ntmps79
    go_wp2
    rw [Lib.run_to_unsafe w ⟨b, 0, none⟩ Tryd.underlying105 Tryd.underlying158 hj (by rw [hjs]; decide) hsh (Nat.zero_lt_succ 1)]
    simp only [Result.andThen]
    rw [Oper.upon_value]
    go_wp2
    rw [run_callFunc_extern Tryd.func97 (by kernel_rfl) (by kernel_rfl) (by kernel_rfl) (e := Extern.AbiNoEscape.same) (by kernel_rfl)]
    rw [Lib.run_noEscape]
    simp only [Result.andThen]
    rw [Oper.upon_value]
    go_wp2
    rw [Lib.run_from_unsafe w ⟨b, 0, none⟩ Tryd.underlying158 Tryd.underlying105 hj hsh hli]
    simp only [Result.andThen]
    rw [Oper.upon_value]
    go_wp2
    go_end0
    exact ⟨rfl, HH.out.used _, (Below.refl B w).setCell (p := ⟨b, 0, none⟩) HH.out.1 _, (Lib.OthersKept.refl _ _ w).setCell ⟨b, 0, none⟩ rfl _⟩
  · have c0 := h.cell0
    have HH := Lib.hid h
    clear h
    go_enter Tryd.func79, Tryd.ntmps79
    go_wp2
    rw [Lib.run_neq_ptr_same w _ Tryd.underlying105 hj]
    go_wp2
    go_end0
    exact ⟨rfl, HH.out, Below.refl B _, Lib.OthersKept.refl _ _ _⟩
set_option maxRecDepth 100000 in
set_option maxHeartbeats 4000000 in
theorem writeRune_c (bs : List Value) (r : Int) (hr0 : -2147483648 ≤ r) (hr1 : r ≤ 2147483647) (h : Lib.IsBuilderF 107 5 B b bs w) (hlen : bs.length + 4 ≤ 140737488355328) (hBw : B ≤ w.heap.size) :
    Calls Tryd.prog 59 #[.pointer (some ⟨b, 0, none⟩), .int .i32 r] w fun e w' => e = .returned (.tuple #[.int .i64 (Lib.runeCells r).length, .nilIface]) ∧ Lib.BuilderAtF 107 5 B b (.pointer (some ⟨b, 0, none⟩)) (bs ++ Lib.runeCells r) w' ∧ Below B w w' ∧ Lib.OthersKept 5 (some b) w w' := by
  have hk4 := Lib.runeCells_le r
  have CC := Lib.hid (copyCheck_c B b w bs h)
  clear h
  go_enter Tryd.func59, Tryd.ntmps59
  go_upto_region 2 with (go_at_call 79; refine (Calls.mono CC.out ?_); rintro e w1 ⟨rfl, h1, hb1, hk1⟩)
  obtain ⟨hB, v, hbk, hown, hne⟩ := h1
  obtain ⟨ao, cap, rfl⟩ : ∃ ao cap, v = .slice ao bs.length cap := by
    rcases hown.2 with ⟨hv, h0⟩ | ⟨g, cap, cur, fz, hv, _⟩
    · exact ⟨none, 0, by rw [hv, h0]⟩
    · exact ⟨_, _, hv⟩
  have c1 : w1.cell? ⟨b, 1, none⟩ = some (.slice ao bs.length cap) := by rw [Lib.cell_of_heap hbk]; rfl
  have CA := Lib.hid (Tryd.utf8_AppendRune_row B _ bs.length bs r hr0 hr1 w1 hown hlen (by have := hb1.size; omega))
  have HOW := Lib.hid hown; have HNE := Lib.hid hne; have HBK := Lib.hid hbk; have HB1 := Lib.hid hb1; have HK1 := Lib.hid hk1
  have hsz1 : B ≤ w1.heap.size := by have := hb1.size; omega
  clear hown hne hbk hb1 hk1
  go_upto_region 4 with (go_at_call 80; refine (Calls.mono CA.out ?_); rintro e w2 ⟨v', rfl, hown', o, hgrow⟩; obtain ⟨A', c', hv'⟩ := ownF_slice hown'; subst hv'; have hb2 := (bld_kept HBK.out HNE.out hgrow); have d1 : w2.cell? ⟨b, 1, none⟩ = some (.slice ao bs.length cap) := (by rw [Lib.cell_of_heap hb2]; rfl); have f1 : w2.frozen? ⟨b, 1, none⟩ = false := Lib.frozen_of_heap hb2 1)
  go_wp2_with fail
  go_ret2
  refine ⟨?_, ?_, ?_, ?_⟩
  · have e : ((bs.length : Int) + ((Lib.runeCells r).length : Int) - (bs.length : Int)) = ((Lib.runeCells r).length : Int) := by omega
    simp [e]
  · exact Lib.BuilderAtF.put (T := 107) (e := 5) hB hb2 (bs' := bs ++ Lib.runeCells r) (by simpa using hown') (by decide)
  · exact ((HB1.out.alloc hsz1 _).grown hgrow (by simp; omega) (fun k hk => (HOW.out.lt k hk).1)).setCell (p := ⟨b, 1, none⟩) hB _
  · exact ((HK1.out.alloc _).grown hgrow (Lib.ownsRowF_kind (HOW.out.alloc _))).setCell ⟨b, 1, none⟩ rfl _
end
end Go.Proofs.YtmgdlodnhmpbiaaDoor.Ps
namespace Go.Proofs.YtmgdlodnhmpbiaaDoor.Ps
open Go.RowKit Mem Go.Proofs.YtmgdlodnhmpbiaaDoor.PFnSyPrefix Go.Proofs.YtmgdlodnhmpbiaaDoorW.PrintWords Go.Proofs.YtmgdlodnhmpbiaaDoorW.PrintLast Go.Proofs.YtmgdlodnhmpbiaaDoorW.PrintMore
set_option linter.unusedVariables false
/-- An instruction of one character that the text at the head goes on with. -/
def runeB (I : In) : Bool := (7 ≤ I.f0 ∧ I.f0 ≤ 10) && (I.f3.length == 1) && (bits .and .u16 (IntKind.u16.wrap I.f2) 1 == 0) && (I.f3.getD 0 0 != 65533)
def chF : Nat → List In → Nat → Option (List Int × Bool)
  | 0, _, _ => none
  | k + 1, K, pc => (skipF (K.length + 1) K pc).bind fun q => if runeB (inAt K q) = true then (chF k K (inAt K q).f1.toNat).map (fun x => ((inAt K q).f3.getD 0 0 :: x.1, x.2)) else some ([], (inAt K q).f0 == 4)
def opF (op : Int) : Int := if op = 8 ∨ op = 9 ∨ op = 10 then 7 else op
set_option maxRecDepth 100000 in
set_option maxHeartbeats 2000000 in
theorem op_c (g o : Nat) (op : Int) (w : World) (h : w.cell? ⟨g, o, none⟩ = some (.int .u8 op)) :
    Calls Tryd.prog 58 #[.pointer (some ⟨g, o, none⟩)] w fun e w' => e = .returned (.int .u8 (opF op)) ∧ ∃ n, w' = w.drewN n := by
  by_cases h8 : op = 8
  · subst h8
    go_enter Tryd.func58, Tryd.ntmps58
    go_wp2
    go_ret
    exact ⟨rfl, 0, rfl⟩
  · by_cases h9 : op = 9
    · subst h9
      go_enter Tryd.func58, Tryd.ntmps58
      go_wp2
      go_ret
      exact ⟨rfl, 0, rfl⟩
    · by_cases h10 : op = 10
      · subst h10
        go_enter Tryd.func58, Tryd.ntmps58
        go_wp2
        go_ret
        exact ⟨rfl, 0, rfl⟩
      · have b8 : (op == 8) = false := by simp [h8]
        have b9 : (op == 9) = false := by simp [h9]
        have b10 : (op == 10) = false := by simp [h10]
        have e : opF op = op := if_neg (by omega)
        have HE := Lib.hid e
        clear h8 h9 h10 e
        go_enter Tryd.func58, Tryd.ntmps58
        go_wp2
        go_ret
        rw [HE.out]
        exact ⟨rfl, 0, rfl⟩
end Go.Proofs.YtmgdlodnhmpbiaaDoor.Ps
namespace Go.Proofs.YtmgdlodnhmpbiaaDoor.Ps
open Go.RowKit Mem Go.Proofs.YtmgdlodnhmpbiaaDoor.PFnSyPrefix Go.Proofs.YtmgdlodnhmpbiaaDoorW.PrintWords Go.Proofs.YtmgdlodnhmpbiaaDoorW.PrintLast Go.Proofs.YtmgdlodnhmpbiaaDoorW.PrintMore
set_option linter.unusedVariables false
def chG (k : Nat) (K : List In) (q : Nat) : Option (List Int × Bool) := if runeB (inAt K q) = true then (chF k K (inAt K q).f1.toNat).map (fun x => ((inAt K q).f3.getD 0 0 :: x.1, x.2)) else some ([], (inAt K q).f0 == 4)
theorem chF_succ (k : Nat) (K : List In) (pc : Nat) : chF (k + 1) K pc = (skipF (K.length + 1) K pc).bind (chG k K) := rfl
def encL (rs : List Int) : List UInt8 := rs.flatMap Lib.encodeRune
theorem opF_rune {op : Int} : (opF op == 7) = decide (7 ≤ op ∧ op ≤ 10) := by
  unfold opF
  split
  · rename_i h
    have : 7 ≤ op ∧ op ≤ 10 := by omega
    simp [this]
  · rename_i h
    by_cases h7 : op = 7
    · subst h7; rfl
    · have : ¬ (7 ≤ op ∧ op ≤ 10) := by omega
      rw [decide_eq_false this]
      simp [h7]
theorem bld_below {T e : TypeId} {B b : Nat} {p : Value} {bs : List Value} {w w' : World} (h : Lib.BuilderAtF T e B b p bs w) (hb : Below w.heap.size w w') : Lib.BuilderAtF T e B b p bs w' := by
  obtain ⟨h1, v, h2, h3, h4⟩ := h
  refine ⟨h1, v, (hb.block _ (lt_of_block h2)).trans h2, ?_, h4⟩
  have hlt := h3.lt
  obtain ⟨h5, h6⟩ := h3
  refine ⟨h5, ?_⟩
  rcases h6 with h6 | ⟨g, cap, cur, fz, hv, hg, hh, r⟩
  · exact Or.inl h6
  · subst hv
    exact Or.inr ⟨g, cap, cur, fz, rfl, hg, by rw [hb.block g (hlt g rfl).2]; exact hh, r⟩
section
variable (K : List In) (w0 : World) (bP : Nat) (start : Nat) (ncap : Int) (g cI : Nat) (R : List Value)
set_option maxRecDepth 100000 in
set_option maxHeartbeats 8000000 in
theorem prefix_c (w : World) (h : PF w0 w bP start ncap (.slice (some ⟨g, 0, none⟩) K.length cI) R K) (hO : OutOk K) (hK : K.length ≤ 500) (hp : start < K.length)
    (hr : ∀ pc, pc < K.length → runeB (inAt K pc) = true → -2147483648 ≤ (inAt K pc).f3.getD 0 0 ∧ (inAt K pc).f3.getD 0 0 ≤ 2147483647) (k : Nat) (RS : List Int) (C : Bool) (hc : chF k K start = some (RS, C)) (hk : k ≤ 100000) :
    Calls Tryd.prog 32 #[.pointer (some ⟨bP, 0, none⟩)] w fun e w' => ∃ t : ByteArray, e = .returned (.tuple #[.string t, .bool C]) ∧ t.data.toList = encL RS ∧ Below w.heap.size w w' := by
  obtain ⟨k, rfl⟩ : ∃ k', k = k' + 1 := ⟨k - 1, by cases k with | zero => simp [chF] at hc | succ k => omega⟩
  rw [chF_succ] at hc
  obtain ⟨q0, hsk, hg0⟩ := Option.bind_eq_some_iff.1 hc
  have CS : Hid (∀ W pc pc', Below w.heap.size w W → pc < K.length → skipF (K.length + 1) K pc = some pc' → Calls Tryd.prog 57 #[.pointer (some ⟨bP, 0, none⟩), .int .u32 pc] W fun e w' => e = .returned (.pointer (some ⟨g, pc' * 4, none⟩)) ∧ Below W.heap.size W w' ∧ pc' < K.length) :=
    Lib.hid fun W pc pc' hb hpc hs => skip_c K w0 bP start ncap g cI R W (h.below hb) hO hK pc hpc (K.length + 1) pc' hs
  have HP := Lib.hid h; have HO := Lib.hid hO; have HR := Lib.hid hr; have HSK := Lib.hid hsk; have HG0 := Lib.hid hg0
  have d1 : w.cell? ⟨bP, 1, none⟩ = some (.int .i64 start) := by rw [cell_of_row w bP 1 _ _ _ h.blk]; rfl
  have hw : IntKind.u32.wrap (start : Int) = (start : Int) := by rw [IntKind.wrap_u32]; omega
  clear h hO hr hsk hg0 hc
  go_enter Tryd.func32, Tryd.ntmps32
  go_upto_region 2 with (go_at_call 57; have X := CS.out w start q0 (Below.refl _ _) hp HSK.out; refine (Calls.mono X ?_); clear X; rintro e w1 ⟨rfl, hb1, hq0⟩; have HB1 := Lib.hid hb1; clear hb1)
  have HP1 := Lib.hid (HP.out.below HB1.out)
  have hR := HP1.out.rn q0 hq0
  obtain ⟨A3, c3, hA3⟩ := own_slice hR
  obtain ⟨e0, e1, e2, e3⟩ := HP1.out.cells rfl hq0
  rw [hA3] at e3
  clear d1 hw hR hA3 e1 e2
  have hgen := HG0.out
  unfold chG at hgen
  have HGE := Lib.hid hgen; clear hgen
  obtain ⟨I, hI⟩ : ∃ I, inAt K q0 = I := ⟨_, rfl⟩
  rw [hI] at e0 e3 HGE
  obtain ⟨op, f1, f2, rs⟩ := I
  simp only at e0 e3
  have HI0 := Lib.hid hI; clear hI
  have CO : Hid (∀ n, Calls Tryd.prog 58 #[.pointer (some ⟨g, q0 * 4, none⟩)] (w1.drewN n) fun e w' => e = .returned (.int .u8 (opF op)) ∧ ∃ n, w' = w1.drewN n) := Lib.hid fun n => (op_c g (q0 * 4) op (w1.drewN n) e0).mono fun e w' h => ⟨h.1, by obtain ⟨m, hm⟩ := h.2; exact ⟨n + m, by rw [hm]; simp [World.drewN, Nat.add_assoc]⟩⟩
  have COa := Lib.hid (op_c g (q0 * 4) op w1 e0)
  have hof := opF_rune (op := op)
  have HOF := Lib.hid hof; clear hof
  by_cases hop : 7 ≤ op ∧ op ≤ 10
  · have bo : (opF op != 7) = false := by simp only [bne, HOF.out, decide_eq_true hop]; rfl
    by_cases hl : rs.length = 1
    · have bl : ((rs.length : Int) != 1) = false := by simp [hl]
      have bl2 : (rs.length != 1) = false := by simp [hl]
      clear hop hl
      go_upto_region 5 with (go_at_call 58; refine (Calls.mono COa.out ?_); rintro e w2 ⟨rfl, n2, rfl⟩)
      have hB1 := HB1.out.size
      have HBL := Lib.hid ((HB1.out.trans ((Mem.below_drewN (Below.refl w1.heap.size w1) n2).mono HB1.out.size)).alloc (show w.heap.size ≤ (w1.drewN n2).heap.size from HB1.out.size) (.cells #[.pointer none, .slice none 0 0] 107))
      have HPL := Lib.hid (HP.out.below HBL.out)
      have HIB : Hid (Lib.IsBuilderF 107 5 w.heap.size w1.heap.size (Lib.byteCells []) ((w1.drewN n2).alloc (.cells #[.pointer none, .slice none 0 0] 107))) := Lib.hid (Or.inl ⟨HB1.out.size, .slice none 0 0, Mem.blk_new (w1.drewN n2) _, World.ownsRowF_of (World.ownsRow_nil _ _ _ _), by simp [Value.ownBlock]⟩)
      clear e0 e3 bo bl bl2
      generalize (w1.drewN n2).alloc (.cells #[.pointer none, .slice none 0 0] 107) = W at *
      generalize w1.heap.size = bB at *
      go_loopg [4] k (fun gg s4 wx => ∃ (q : Nat) (dn : List UInt8) (rs' : List Int), s4 = .pointer (some ⟨g, q * 4, none⟩) ∧ q < K.length ∧ Hid (Lib.IsBuilderF 107 5 w.heap.size bB (Lib.byteCells dn) wx) ∧ Hid (PF w0 wx bP start ncap (.slice (some ⟨g, 0, none⟩) K.length cI) R K) ∧ Hid (chG gg K q = some (rs', C)) ∧ Hid (dn ++ encL rs' = encL RS) ∧ dn.length ≤ 4 * (k - gg) ∧ gg ≤ k ∧ Hid (Below w.heap.size w wx))
      case atStart => exact ⟨q0, [], RS, rfl, hq0, HIB, HPL, HG0, Lib.hid rfl, by simp, by omega, HBL⟩
      case round =>
        clear HGE HI0 CO COa HOF
        obtain ⟨q, dn, rs', rfl, hq, HIB1, HPx, HGx, HDx, hdl, hgk, HBx⟩ := hrel
        have hbs : w.heap.size ≤ wr.heap.size := HBx.out.size
        have hR := HP.out.rn q hq
        obtain ⟨A3', c3', hA3'⟩ := own_slice hR
        obtain ⟨v0, v1, v2, v3⟩ := HP.out.cells rfl hq
        rw [hA3'] at v3 hR
        have e0 := low HBx.out v0
        have e1 := low HBx.out v1
        have e2 := low HBx.out v2
        have e3 := low HBx.out v3
        have hge := HGx.out
        unfold chG at hge
        have hrr := HR.out q hq
        have hio := HO.out q hq
        generalize inAt K q = I at *
        obtain ⟨op', f1', f2', rs2⟩ := I
        simp only at *
        have COa := Lib.hid (op_c g (q * 4) op' wr e0)
        have hof := opF_rune (op := op')
        have HOF := Lib.hid hof; clear hof
        have HRW := Lib.hid hR; clear hR hA3'
        have HGE := Lib.hid hge; clear hge
        by_cases hrb : runeB ⟨op', f1', f2', rs2⟩ = true
        · have hrr2 := hrr hrb
          have hall := hrb
          simp only [runeB, Bool.and_eq_true, decide_eq_true_eq, beq_iff_eq, bne_iff_ne] at hall
          obtain ⟨⟨⟨hop, hl⟩, hbt⟩, hne⟩ := hall
          have hge := HGE.out
          rw [if_pos hrb] at hge
          obtain ⟨x, hx1, hx2⟩ := Option.map_eq_some_iff.1 hge
          obtain ⟨rs3, C3⟩ := x
          injection hx2 with hx2 hx3
          simp only at hx2 hx3
          subst hx3
          have hgp : gk ≠ 0 := fun e => by rw [e] at hx1; simp [chF] at hx1
          obtain ⟨g', rfl⟩ : ∃ g', gk = g' + 1 := ⟨gk - 1, by omega⟩
          rw [chF_succ] at hx1
          obtain ⟨q2, hs2, hg2⟩ := Option.bind_eq_some_iff.1 hx1
          have ho := hio.1
          obtain ⟨o1, rfl⟩ : ∃ o1 : Nat, f1' = o1 := ⟨f1'.toNat, by omega⟩
          have ho1 : o1 < K.length := by omega
          rw [Int.toNat_natCast] at hs2
          obtain ⟨g3, cc3, hv3, _, _⟩ := HRW.out.form (by omega)
          have hA : A3' = some ⟨g3, 0, none⟩ := by injection hv3
          subst hA
          have hc3 := HRW.out.cells (g := g3) rfl 0 (.int .i32 (rs2.getD 0 0)) (by
            match rs2, hl with
            | [r], _ => rfl)
          rw [Addr.add_lit, Nat.zero_add] at hc3
          replace hc3 := low HBx.out hc3
          rw [hl] at e3
          have bo : (opF op' == 7) = true := by simp only [HOF.out, decide_eq_true hop]
          have bb : (bits .and .u16 (IntKind.u16.wrap f2') 1 == 0) = true := by simp [hbt]
          generalize rs2.getD 0 0 = r at *
          have bn : (r != 65533) = true := by simp [hne]
          have CWR : Hid (∀ n, Calls Tryd.prog 59 #[.pointer (some ⟨bB, 0, none⟩), .int .i32 r] (wr.drewN n) fun e w' => e = .returned (.tuple #[.int .i64 (Lib.runeCells r).length, .nilIface]) ∧ Lib.BuilderAtF 107 5 w.heap.size bB (.pointer (some ⟨bB, 0, none⟩)) (Lib.byteCells dn ++ Lib.runeCells r) w' ∧ Below w.heap.size (wr.drewN n) w' ∧ Lib.OthersKept 5 (some bB) (wr.drewN n) w') :=
            Lib.hid fun n => writeRune_c w.heap.size bB (wr.drewN n) (Lib.byteCells dn) r hrr2.1 hrr2.2 (show Lib.IsBuilderF _ _ _ _ _ (wr.drewN n) from HIB1.out) (by rw [Lib.byteCells_length]; omega) hbs
          have V1 := Lib.hid v1
          have HS2 := Lib.hid hs2
          have HG2 := Lib.hid hg2
          have HX2 := Lib.hid hx2
          have hbyte : Lib.byteCells dn ++ Lib.runeCells r = Lib.byteCells (dn ++ Lib.encodeRune r) := by rw [Lib.byteCells_append, Lib.byteCells_encodeRune]
          have HBY := Lib.hid hbyte
          have hrl := (Lib.runeCells_le r).2
          rw [Lib.runeCells_length] at hrl
          clear hge hx1 hx2 hs2 hg2 hio ho hrb hop hl hbt hne hrr hrr2 hv3 hbyte
          go_wp2_with (first
            | (go_at_call 58; refine (Calls.mono COa.out ?_); rintro e w2 ⟨rfl, n5, rfl⟩)
            | (go_at_call 59; refine (Calls.mono (CWR.out n5) ?_); rintro e w6 ⟨rfl, hbl, hb6, _⟩; have HBL6 := Lib.hid hbl; have HB6 := Lib.hid (HBx.out.trans (((Mem.below_drewN (Below.refl wr.heap.size wr) n5).mono hbs).trans hb6)); have e6 := low HB6.out V1.out; clear hbl hb6)
            | (go_at_call 57; have X := CS.out w6 o1 q2 HB6.out ho1 HS2.out; refine (Calls.mono X ?_); clear X; rintro e w7 ⟨rfl, hb7, hq7⟩; have HB7 := Lib.hid (HB6.out.trans (hb7.mono HB6.out.size)); have HBL7 := Lib.hid (bld_below HBL6.out hb7); clear hb7))
          go_roundg g'
          case rel => exact ⟨q2, dn ++ Lib.encodeRune r, rs3, rfl, hq7, Lib.hid (Or.inr (by rw [← HBY.out]; exact HBL7.out)), Lib.hid (HP.out.below HB7.out), HG2, Lib.hid (by rw [← HDx.out, ← HX2.out]; simp [encL]), by rw [List.length_append]; omega, by omega, HB7⟩
          case measure => omega
        · have hge := HGE.out
          rw [if_neg hrb] at hge
          injection hge with hge
          injection hge with hg1 hg2
          subst hg1
          have V0 := Lib.hid v0
          have HDX : Hid (dn = encL RS) := Lib.hid (by have := HDx.out; simpa [encL] using this)
          have CST : Hid (∀ n, Calls Tryd.prog 60 #[.pointer (some ⟨bB, 0, none⟩)] ((wr.drewN n).drewN 1) fun e w' => e = .returned (.string ⟨dn.toArray⟩) ∧ (Lib.IsBuilderF 107 5 w.heap.size bB (Lib.byteCells dn) w' ∧ Below w.heap.size ((wr.drewN n).drewN 1) w' ∧ Lib.OthersKept 5 (some bB) ((wr.drewN n).drewN 1) w')) :=
            Lib.hid fun n => Tryd.Builder_String_any_k w.heap.size bB dn ((wr.drewN n).drewN 1) (show Lib.IsBuilderF _ _ _ _ _ ((wr.drewN n).drewN 1) from HIB1.out) hbs
          simp only [runeB, Bool.and_eq_true, decide_eq_true_eq, beq_iff_eq, bne_iff_ne] at hrb
          clear hrr hio e1
          subst hg2
          by_cases hop : 7 ≤ op' ∧ op' ≤ 10
          · have bo : (opF op' == 7) = true := by simp only [HOF.out, decide_eq_true hop]
            by_cases hl : rs2.length = 1
            · obtain ⟨g3, cc3, hv3, _, _⟩ := HRW.out.form (by omega)
              have hA : A3' = some ⟨g3, 0, none⟩ := by injection hv3
              subst hA
              have hc3 := HRW.out.cells (g := g3) rfl 0 (.int .i32 (rs2.getD 0 0)) (by
                match rs2, hl with
                | [r], _ => rfl)
              rw [Addr.add_lit, Nat.zero_add] at hc3
              replace hc3 := low HBx.out hc3
              rw [hl] at e3
              by_cases hbt : bits .and .u16 (IntKind.u16.wrap f2') 1 = 0
              · have bb : (bits .and .u16 (IntKind.u16.wrap f2') 1 == 0) = true := by simp [hbt]
                have hne : rs2.getD 0 0 = 65533 := Decidable.byContradiction fun hne => hrb ⟨⟨⟨hop, hl⟩, hbt⟩, hne⟩
                generalize rs2.getD 0 0 = r at *
                have bn : (r != 65533) = false := by simp [hne]
                clear hrb hop hl hbt hne hv3
                go_upto_region 8 with (go_at_call 58; refine (Calls.mono COa.out ?_); rintro e w2 ⟨rfl, n5, rfl⟩)
                go_region_held3 (fun w' => w'.cell? ⟨g, q * 4, none⟩ = some (.int .u8 op')) (go_keep) ((go_at_call 60; have X := CST.out n5; refine (Calls.mono X ?_); clear X; rintro e w8 ⟨rfl, hi8, hb8, _⟩; have e8 := low (show Below w.heap.size w w8 from HBx.out.trans ((Mem.below_drewN (Mem.below_drewN (Below.refl wr.heap.size wr) n5) 1).mono hbs |>.trans hb8)) V0.out; have HB8 := Lib.hid (show Below w.heap.size w w8 from HBx.out.trans ((Mem.below_drewN (Mem.below_drewN (Below.refl wr.heap.size wr) n5) 1).mono hbs |>.trans hb8)); clear hb8 hi8))
                go_wp2_with fail
                go_ret2
                exact ⟨_, rfl, HDX.out, HB8.out⟩
              · have bb : (bits .and .u16 (IntKind.u16.wrap f2') 1 == 0) = false := by simp [hbt]
                clear hrb hop hl hbt hv3
                go_upto_region 8 with (go_at_call 58; refine (Calls.mono COa.out ?_); rintro e w2 ⟨rfl, n5, rfl⟩)
                go_region_held3 (fun w' => w'.cell? ⟨g, q * 4, none⟩ = some (.int .u8 op')) (go_keep) ((go_at_call 60; have X := CST.out n5; refine (Calls.mono X ?_); clear X; rintro e w8 ⟨rfl, hi8, hb8, _⟩; have e8 := low (show Below w.heap.size w w8 from HBx.out.trans ((Mem.below_drewN (Mem.below_drewN (Below.refl wr.heap.size wr) n5) 1).mono hbs |>.trans hb8)) V0.out; have HB8 := Lib.hid (show Below w.heap.size w w8 from HBx.out.trans ((Mem.below_drewN (Mem.below_drewN (Below.refl wr.heap.size wr) n5) 1).mono hbs |>.trans hb8)); clear hb8 hi8))
                go_wp2_with fail
                go_ret2
                exact ⟨_, rfl, HDX.out, HB8.out⟩
            · have bl : ((rs2.length : Int) == 1) = false := by rw [beq_eq_false_iff_ne]; omega
              clear hrb hop hl
              go_upto_region 8 with (go_at_call 58; refine (Calls.mono COa.out ?_); rintro e w2 ⟨rfl, n5, rfl⟩)
              go_region_held3 (fun w' => w'.cell? ⟨g, q * 4, none⟩ = some (.int .u8 op')) (go_keep) ((go_at_call 60; have X := CST.out n5; refine (Calls.mono X ?_); clear X; rintro e w8 ⟨rfl, hi8, hb8, _⟩; have e8 := low (show Below w.heap.size w w8 from HBx.out.trans ((Mem.below_drewN (Mem.below_drewN (Below.refl wr.heap.size wr) n5) 1).mono hbs |>.trans hb8)) V0.out; have HB8 := Lib.hid (show Below w.heap.size w w8 from HBx.out.trans ((Mem.below_drewN (Mem.below_drewN (Below.refl wr.heap.size wr) n5) 1).mono hbs |>.trans hb8)); clear hb8 hi8))
              go_wp2_with fail
              go_ret2
              exact ⟨_, rfl, HDX.out, HB8.out⟩
          · have bo : (opF op' == 7) = false := by simp only [HOF.out, decide_eq_false hop]
            clear hrb hop
            go_upto_region 8 with (go_at_call 58; refine (Calls.mono COa.out ?_); rintro e w2 ⟨rfl, n5, rfl⟩)
            go_region_held3 (fun w' => w'.cell? ⟨g, q * 4, none⟩ = some (.int .u8 op')) (go_keep) ((go_at_call 60; have X := CST.out n5; refine (Calls.mono X ?_); clear X; rintro e w8 ⟨rfl, hi8, hb8, _⟩; have e8 := low (show Below w.heap.size w w8 from HBx.out.trans ((Mem.below_drewN (Mem.below_drewN (Below.refl wr.heap.size wr) n5) 1).mono hbs |>.trans hb8)) V0.out; have HB8 := Lib.hid (show Below w.heap.size w w8 from HBx.out.trans ((Mem.below_drewN (Mem.below_drewN (Below.refl wr.heap.size wr) n5) 1).mono hbs |>.trans hb8)); clear hb8 hi8))
            go_wp2_with fail
            go_ret2
            exact ⟨_, rfl, HDX.out, HB8.out⟩
    · have bl : ((rs.length : Int) != 1) = true := by rw [bne_iff_ne]; omega
      have hrb : runeB ⟨op, f1, f2, rs⟩ = false := by simp [runeB, hl]
      have hge := HGE.out
      rw [hrb] at hge
      simp only [Bool.false_eq_true, if_false] at hge
      injection hge with hge
      injection hge with hg1 hg2
      subst hg1
      subst hg2
      clear hop hl hrb
      go_upto_region 3 with (go_at_call 58; refine (Calls.mono COa.out ?_); rintro e w2 ⟨rfl, n2, rfl⟩)
      go_quiet (fail)
      go_wp2_with fail
      go_ret2
      exact ⟨⟨#[]⟩, rfl, rfl, HB1.out.trans ((Mem.below_drewN (Mem.below_drewN (Below.refl w1.heap.size w1) n2) nq).mono HB1.out.size)⟩
  · have bo : (opF op != 7) = true := by simp only [bne, HOF.out, decide_eq_false hop]; rfl
    have hrb : runeB ⟨op, f1, f2, rs⟩ = false := by simp [runeB, hop]
    have hge := HGE.out
    rw [hrb] at hge
    simp only [Bool.false_eq_true, if_false] at hge
    injection hge with hge
    injection hge with hg1 hg2
    subst hg1
    subst hg2
    clear hop hrb
    go_upto_region 3 with (go_at_call 58; refine (Calls.mono COa.out ?_); rintro e w2 ⟨rfl, n2, rfl⟩)
    go_quiet (fail)
    go_wp2_with fail
    go_ret2
    exact ⟨⟨#[]⟩, rfl, rfl, HB1.out.trans ((Mem.below_drewN (Mem.below_drewN (Below.refl w1.heap.size w1) n2) nq).mono HB1.out.size)⟩
end
end Go.Proofs.YtmgdlodnhmpbiaaDoor.Ps
