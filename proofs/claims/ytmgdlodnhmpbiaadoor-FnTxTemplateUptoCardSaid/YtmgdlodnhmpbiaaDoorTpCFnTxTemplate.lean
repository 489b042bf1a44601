/- Where a template is cut at its first $; a string's bytes appended to bytes of the call's own. -/
import Derived.Test.YtmgdlodnhmpbiaaDoorTpPFnTxTemplate
import Derived.Test.YtmgdlodnhmpbiaaDoorPFnTxTemplatex
import Derived.Test.YtmgdlodnhmpbiaaDoorInts
import Derived.Lib.AppendStr
namespace Go.Proofs.YtmgdlodnhmpbiaaDoor.Tx
open Go.RowKit Go.Lib Ext Mem Go.Proofs.YtmgdlodnhmpbiaaDoor.PFnTxTemplate Go.Proofs.YtmgdlodnhmpbiaaDoorW.PrintWords Go.Proofs.YtmgdlodnhmpbiaaDoorW.PrintLast Go.Proofs.YtmgdlodnhmpbiaaDoorW.PrintMore
set_option linter.unusedVariables false
/-- "$" -/
abbrev dollar : ByteArray := ⟨#[36]⟩
theorem one_at {s : ByteArray} {l : List UInt8} (h : s.data.toList = l) (i : Nat) (hi : i < l.length) : (s.extract i (i + 1)).toList = [l[i]] := by
  have hl : i < s.data.toList.length := by rw [h]; exact hi
  rw [Lib.toList_data]
  subst h
  simp only [ByteArray.data_extract, Array.toList_extract, List.extract_eq_take_drop]
  rw [List.drop_eq_getElem_cons hl, show i + 1 - i = 1 by omega]
  rfl
theorem wr {i : Nat} (h : i ≤ 2147483647) : wrap64 ((i : Int) + 1) = ((i + 1 : Nat) : Int) := by unfold wrap64; omega
theorem zix {s : ByteArray} {b r : List UInt8} (h : s.data.toList = b ++ 36 :: r) (hb : 36 ∉ b) (hm : s.size ≤ 2147483647) : ∀ (m k i : Nat), i + m = b.length → m < k → regexp_zzIndex.l0 k s dollar (i : Int) = some (b.length : Int)
  | m, 0, i, _, hk => by omega
  | m, k + 1, i, hi, hk => by
    have hsz := size_of_list h
    simp at hsz
    have hone : (dollar.size : Int) = 1 := rfl
    have hw := wr (i := i) (by omega)
    have hg := one_at h i (by simp; omega)
    have hd : dollar.toList = [36] := by rw [Lib.toList_data]
    have h1 : ((i + 1 : Nat) : Int) ≤ (s.size : Int) := by omega
    have h2 : (0 : Int) ≤ (i : Int) := by omega
    have h3 : (i : Int) ≤ ((i + 1 : Nat) : Int) := by omega
    simp only [regexp_zzIndex.l0, hone, hw, if_pos h1, if_pos h2, if_pos h3, Int.toNat_natCast, hg, hd]
    cases m with
    | zero =>
      rw [if_pos]
      · congr 2
      · rw [List.getElem_append_right (by omega)]
        simp [show i - b.length = 0 by omega]
    | succ m =>
      rw [if_neg, zix h hb hm m k (i + 1) (by omega) (by omega)]
      rw [List.getElem_append_left (by omega)]
      intro e
      exact hb (by injection e with e; rw [← e]; exact List.getElem_mem _)
theorem zix_no {s : ByteArray} (hb : 36 ∉ s.data.toList) (hm : s.size ≤ 2147483647) : ∀ (m k i : Nat), i + m = s.size → m < k → regexp_zzIndex.l0 k s dollar (i : Int) = some (-1)
  | m, 0, i, _, hk => by omega
  | m, k + 1, i, hi, hk => by
    have hsz := size_of_list (s := s) rfl
    have hone : (dollar.size : Int) = 1 := rfl
    have hw := wr (i := i) (by omega)
    simp only [regexp_zzIndex.l0, hone, hw]
    cases m with
    | zero => rw [if_neg (by omega)]
    | succ m =>
      have hg := one_at (s := s) rfl i (by omega)
      have hd : dollar.toList = [36] := by rw [Lib.toList_data]
      have h1 : ((i + 1 : Nat) : Int) ≤ (s.size : Int) := by omega
      have h2 : (0 : Int) ≤ (i : Int) := by omega
      have h3 : (i : Int) ≤ ((i + 1 : Nat) : Int) := by omega
      simp only [if_pos h1, if_pos h2, if_pos h3, Int.toNat_natCast, hg, hd]
      rw [if_neg, zix_no hb hm m k (i + 1) (by omega) (by omega)]
      intro e
      exact hb (by injection e with e; rw [← e]; exact List.getElem_mem _)
theorem zcut_yes {s : ByteArray} {b r : List UInt8} (h : s.data.toList = b ++ 36 :: r) (hb : 36 ∉ b) (hm : s.size ≤ 2147483647) (w : World) :
    Calls Tryd.prog 75 #[.string s, .string dollar] w fun e w' => e = .returned (.tuple #[.string (s.extract 0 b.length), .string (s.extract (b.length + 1) s.size), .bool true]) ∧ Below w.heap.size w w' := by
  refine (regexp_zzCut.calls (b.length + 1) s dollar _ _ true w ?_).mono fun e w' h => ⟨h.1, h.2.below⟩
  have hsz := size_of_list h
  simp at hsz
  have hone : (dollar.size : Int) = 1 := rfl
  have hw := wr (i := b.length) (by omega)
  have e := zix h hb hm b.length (b.length + 1) 0 (by omega) (by omega)
  unfold regexp_zzCut.f regexp_zzIndex.f
  have e' : regexp_zzIndex.l0 (b.length + 1) s dollar 0 = some (b.length : Int) := e
  rw [e', Option.bind_some, if_pos (by omega), if_pos (by omega), if_pos (by omega), hone, hw, if_pos (by omega), if_pos (by omega)]
  rfl
theorem zcut_no {s : ByteArray} (hb : 36 ∉ s.data.toList) (hm : s.size ≤ 2147483647) (w : World) :
    Calls Tryd.prog 75 #[.string s, .string dollar] w fun e w' => e = .returned (.tuple #[.string s, .string ByteArray.empty, .bool false]) ∧ Below w.heap.size w w' := by
  refine (regexp_zzCut.calls (s.size + 1) s dollar _ _ false w ?_).mono fun e w' h => ⟨h.1, h.2.below⟩
  have e := zix_no hb hm s.size (s.size + 1) 0 (by omega) (by omega)
  unfold regexp_zzCut.f regexp_zzIndex.f
  have e' : regexp_zzIndex.l0 (s.size + 1) s dollar 0 = some (-1) := e
  rw [e', Option.bind_some, if_neg (by omega)]
  rfl
section
variable {P : Program} {w : World}
/-- 'append(v, s...)' within a region: v bytes of the call's own, s a string. -/
theorem step_appstr {ops : Array Oper} {o : Oper} {a : Act} {K : Act → World → Prop} {Q : Exit → Act → World → Prop} {E : Prop} (hgd : o.guard = none) (sl x : Operand) (t u : TypeId)
    (ho : o.op = .call { callee := .builtin .append, args := #[sl, x], argTypes := #[t, u] })
    (base : Nat) (e : TypeId) (ht : P.underlying t = some (.slice e)) (hu : P.underlying u = some .string) (hi : (P.info? e).map (fun i => (i.zero, i.size, i.bytes)) = some (some (.int .u8 0), 1, 1))
    (v : Value) (n : Nat) (xs : List Value) (hs : a.eval sl = v) (hown : w.ownsRow base e 1 v n xs) (s : ByteArray) (hx : a.eval x = .string s)
    (hbytes : n + s.size ≤ 140737488355328) (hbase : base ≤ w.heap.size)
    (h : ∀ v' w', w'.ownsRow base e 1 v' (n + s.size) (xs ++ strCells s) → w.grownBy w' v.ownBlock → K (a.put o.dst v') w') :
    if Region.wanted o (yielded ops a.tmps) = true then Oper.wp P o a w K Q else E := by
  have hw : Region.wanted o (yielded ops a.tmps) = true := by simp [Region.wanted, hgd]
  rw [if_pos hw]
  obtain ⟨i0, hi0, hz0, hz1, hz2⟩ := info_parts hi
  obtain ⟨v', w', hr, h1, h2, _⟩ := run_append_own_string (P := P) w base t u o.type e i0 ht hu hi0 hz0 hz1 hz2 v n xs hown s (by simp only [maxLen]; omega) hbytes hbase
  unfold Oper.wp execOp
  simp only [ho, resolve, invoke, builtin, Sem.run_bind, Sem.run_pure, Result.andThen_ok, List.map_toArray, List.map_cons, List.map_nil, hs, hx, hr]
  exact h v' w' h1 h2
end
end Go.Proofs.YtmgdlodnhmpbiaaDoor.Tx
