/- The package's writing of a template, at templates that are written for texts. -/
import Derived.Test.YtmgdlodnhmpbiaaDoorTpCFnTxTemplate
import Derived.Deep.DeepCutAuto
import Derived.Deep.CutBlock
import Derived.Deep.RegionHeld3
import Derived.StillTail
import Derived.OrdersHeld
import Derived.Test.YtmgdlodnhmpbiaaDoorRegT
namespace Go.Proofs.YtmgdlodnhmpbiaaDoor.Tx
open Go.RowKit Go.Lib Ext Mem Go.Proofs.YtmgdlodnhmpbiaaDoor.PFnTxTemplate Go.Proofs.YtmgdlodnhmpbiaaDoorW.PrintWords Go.Proofs.YtmgdlodnhmpbiaaDoorW.PrintLast Go.Proofs.YtmgdlodnhmpbiaaDoorW.PrintMore
set_option linter.unusedVariables false
theorem ext_ref (s : ByteArray) (w : World) (hT : UTabs w) (hm : s.size ≤ 2147483647) {n : Nat} (hn : n < 100) {rest : List UInt8} (h : s.data.toList = 123 :: (decL n ++ 125 :: rest)) :
    Calls Tryd.prog 76 #[.string s] w fun e w' => ∃ nm rs : ByteArray, e = .returned (.tuple #[.string nm, .int .i64 (n : Int), .string rs, .bool true]) ∧ rs.data.toList = rest ∧ Below w.heap.size w w' := by
  have hsz := size_of_list h
  have h0 : 0 < s.size := by rw [hsz]; simp
  have hb : s[0].toNat = 123 := by
    have := get_of_list h 0 (by simp)
    have e : s.get! 0 = s[0] := getElem!_pos s.data 0 h0
    rw [e] at this
    rw [this]; rfl
  have ht : (s.extract 1 s.size).data.toList = decL n ++ 125 :: rest := by
    simp [ByteArray.data_extract, h, hsz]
    rw [List.take_of_length_le (by simp)]
  obtain ⟨nm, rs, he, hr⟩ := txF_ref hn ht
  refine (ext_b s w hT hm h0 hb).mono fun e w' hp => ?_
  rw [he] at hp
  exact ⟨nm, rs, hp.2, hr, hp.1⟩
/-- A group's text. -/
def grpL (src : ByteArray) (M : List Int) (n : Nat) : List UInt8 := if 2 * n + 1 < M.length ∧ 0 ≤ M.getD (2 * n) 0 then (src.extract (M.getD (2 * n) 0).toNat (M.getD (2 * n + 1) 0).toNat).data.toList else []
/-- Pairs of places of a text. -/
def PairsOf (M : List Int) (n : Nat) : Prop := ∀ k, 2 * k + 1 < M.length → 0 ≤ M.getD (2 * k) 0 → M.getD (2 * k) 0 ≤ M.getD (2 * k + 1) 0 ∧ M.getD (2 * k + 1) 0 ≤ n
def bcs (l : List UInt8) : List Value := l.map fun b => Value.int .u8 b.toNat
theorem strCells_bcs (s : ByteArray) : strCells s = bcs s.data.toList := rfl
/-- Bytes of the call's own. -/
def OwnB (w : World) (base : Nat) (v : Value) (l : List UInt8) : Prop := w.ownsRow base 5 1 v l.length (bcs l)
theorem info_b : (Tryd.prog.info? 5).map (fun i => (i.zero, i.size, i.bytes)) = some (some (.int .u8 0), 1, 1) := by kernel_rfl
section
variable {w : World} {base : Nat} {v : Value} {l : List UInt8}
theorem OwnB.below {w' : World} (h : OwnB w base v l) (hb : Below w.heap.size w w') : OwnB w' base v l := by
  have hlt := World.ownsRow.lt h
  obtain ⟨h1, h2⟩ := h
  refine ⟨h1, ?_⟩
  rcases h2 with h2 | ⟨g, cap, cur, hv, hg, hh, r⟩
  · exact Or.inl h2
  · subst hv
    exact Or.inr ⟨g, cap, cur, rfl, hg, by rw [hb.block g (hlt g rfl).2]; exact hh, r⟩
theorem OwnB.drewN (h : OwnB w base v l) (n : Nat) : OwnB (w.drewN n) base v l := h
theorem bcs_app (l m : List UInt8) : bcs (l ++ m) = bcs l ++ bcs m := by simp [bcs]
theorem bcs_len (l : List UInt8) : (bcs l).length = l.length := by simp [bcs]
/-- 'append(v, s...)', s a string. -/
theorem wp_strB {ops : Array Oper} {rest : List Oper} {o : Oper} {a : Act} {Q : Exit → Act → World → Prop} (hgd : o.guard = none) (sl x : Operand)
    (ho : o.op = .call { callee := .builtin .append, args := #[sl, x], argTypes := #[30, 9] })
    (hs : a.eval sl = v) (hown : OwnB w base v l) (s : ByteArray) (hx : a.eval x = .string s)
    (hb : l.length + s.size ≤ 140737488355328) (hbase : base ≤ w.heap.size)
    (h : ∀ v' w', OwnB w' base v' (l ++ s.data.toList) → Below base w w' → wpList Tryd.prog ops Q rest (a.put o.dst v') w') : wpList Tryd.prog ops Q (o :: rest) a w := by
  obtain ⟨i0, hi0, hz0, hz1, hz2⟩ := info_parts info_b
  refine wpList_append_own_string w hgd sl x 30 9 ho base 5 i0 Tryd.underlying30 Tryd.underlying9 hi0 hz0 hz1 hz2 v l.length (bcs l) hs hown s hx (by unfold maxLen; omega) hb hbase fun v' w' h1 h2 _ => ?_
  refine h v' w' ?_ ((Below.refl base w).grown h2 hbase fun k hk => (World.ownsRow.lt hown k hk).1)
  unfold OwnB
  rw [bcs_app, List.length_append, Array.length_toList]
  exact h1
theorem step_strB {ops : Array Oper} {o : Oper} {a : Act} {K : Act → World → Prop} {Q : Exit → Act → World → Prop} {E : Prop} (hgd : o.guard = none) (sl x : Operand)
    (ho : o.op = .call { callee := .builtin .append, args := #[sl, x], argTypes := #[30, 9] })
    (hs : a.eval sl = v) (hown : OwnB w base v l) (s : ByteArray) (hx : a.eval x = .string s)
    (hb : l.length + s.size ≤ 140737488355328) (hbase : base ≤ w.heap.size)
    (h : ∀ v' w', OwnB w' base v' (l ++ s.data.toList) → Below base w w' → K (a.put o.dst v') w') :
    if Region.wanted o (yielded ops a.tmps) = true then Oper.wp Tryd.prog o a w K Q else E := by
  refine step_appstr hgd sl x 30 9 ho base 5 Tryd.underlying30 Tryd.underlying9 info_b v l.length (bcs l) hs hown s hx hb hbase fun v' w' h1 h2 => ?_
  refine h v' w' ?_ ((Below.refl base w).grown h2 hbase fun k hk => (World.ownsRow.lt hown k hk).1)
  unfold OwnB
  rw [bcs_app, List.length_append, Array.length_toList]
  exact h1
theorem run_strB (hown : OwnB w base v l) (s : ByteArray) (hb : l.length + s.size ≤ 140737488355328) (hbase : base ≤ w.heap.size) :
    ∃ v' w', (Builtin.append_ #[30, 9] 30 #[v, .string s]).run Tryd.prog w = .ok v' w' ∧ OwnB w' base v' (l ++ s.data.toList) ∧ Below base w w' := by
  obtain ⟨i0, hi0, hz0, hz1, hz2⟩ := info_parts info_b
  obtain ⟨v', w', hr, h1, h2, _⟩ := run_append_own_string (P := Tryd.prog) w base 30 9 30 5 i0 Tryd.underlying30 Tryd.underlying9 hi0 hz0 hz1 hz2 v l.length (bcs l) hown s (by unfold maxLen; omega) hb hbase
  refine ⟨v', w', hr, ?_, (Below.refl base w).grown h2 hbase fun k hk => (World.ownsRow.lt hown k hk).1⟩
  unfold OwnB
  rw [bcs_app, List.length_append, Array.length_toList]
  exact h1
/-- 'append(v, b)', b one byte. -/
theorem wp_oneB {ops : Array Oper} {rest : List Oper} {o : Oper} {a : Act} {Q : Exit → Act → World → Prop} (hgd : o.guard = none) (sl x : Operand)
    (ho : o.op = .call { callee := .builtin .append, args := #[sl, x], argTypes := #[30, 30] })
    (hs : a.eval sl = v) (hown : OwnB w base v l) (c : UInt8) (hx : a.eval x = .slice (some ⟨w.heap.size, 0, none⟩) 1 1)
    (hb : l.length + 1 ≤ 140737488355328) (hbase : base ≤ w.heap.size)
    (h : ∀ v' w', OwnB w' base v' (l ++ [c]) → Below base w w' → wpList Tryd.prog ops Q rest (a.put o.dst v') w') : wpList Tryd.prog ops Q (o :: rest) a (w.alloc (.cells #[.int .u8 c.toNat] 5)) := by
  refine Mem.wp_app1 hgd sl x 30 ho base 5 (.int .u8 0) 1 Tryd.underlying30 info_b rfl v l.length (bcs l) hs hown (.int .u8 c.toNat) rfl hx (by unfold maxLen; omega) (by omega) hbase fun v' w' h1 _ h3 => ?_
  refine h v' w' ?_ h3
  unfold OwnB
  rw [bcs_app, List.length_append]
  exact h1
end
theorem below_drewT {B : Nat} {a w w' : World} (h : Below B a w) (h2 : Below B w.drew w') : Below B a w' := h.trans ⟨h2.os, h2.tape, h2.output, h2.size, h2.block⟩
theorem OwnB.drew {w : World} {base : Nat} {v : Value} {l : List UInt8} (h : OwnB w base v l) : OwnB w.drew base v l := h
theorem pos_of {s : ByteArray} {l : List UInt8} (h : s.data.toList = l) (hl : l ≠ []) : 0 < s.size := by
  rw [size_of_list h]
  exact List.length_pos_iff.2 hl
theorem at0 {s : ByteArray} {c : UInt8} {l : List UInt8} (h : s.data.toList = c :: l) (h0 : 0 < s.size) : s[0].toNat = c.toNat := by
  have := get_of_list h 0 (by simp)
  have e : s.get! 0 = s[0] := getElem!_pos s.data 0 h0
  rw [e] at this
  rw [this]; rfl
theorem tail_list {s : ByteArray} {b r : List UInt8} {c : UInt8} (h : s.data.toList = b ++ c :: r) : (s.extract (b.length + 1) s.size).data.toList = r := by
  have hsz := size_of_list h
  simp [ByteArray.data_extract, h, hsz]
  rw [List.take_of_length_le (by omega)]
theorem head_list {s : ByteArray} {b r : List UInt8} (h : s.data.toList = b ++ r) : (s.extract 0 b.length).data.toList = b := by
  simp [ByteArray.data_extract, h]
end Go.Proofs.YtmgdlodnhmpbiaaDoor.Tx
