/- The merging of two lists of ranges: what it hands back. -/
import Derived.Test.YtholpemmakdglaaExtW
import Derived.Test.YtholpemmakdglaaClsA
import Derived.Defers
import Derived.Deep.OwnRows
import Derived.LoopN
namespace Go.Proofs.Ytholpemmakdglaa.Mem
open Go.RowKit
set_option linter.unusedVariables false
/-- The merging, as the package does it: the next range must begin behind the last one; else there is no list. -/
def goM (lp rp : Int) : Nat → List Int → List Int → List Int → List Int → Option (List Int × List Int)
  | 0, M, N, _, _ => some (M, N)
  | f + 1, M, N, l, r =>
    match l, r with
    | a :: b :: l', [] => if M.length ≠ 0 ∧ a ≤ M.getD (M.length - 1) 0 then none else goM lp rp f (M ++ [a, b]) (N ++ [lp]) l' []
    | [], c :: d :: r' => if M.length ≠ 0 ∧ c ≤ M.getD (M.length - 1) 0 then none else goM lp rp f (M ++ [c, d]) (N ++ [rp]) [] r'
    | a :: b :: l', c :: d :: r' =>
      if c < a then (if M.length ≠ 0 ∧ c ≤ M.getD (M.length - 1) 0 then none else goM lp rp f (M ++ [c, d]) (N ++ [rp]) (a :: b :: l') r')
      else (if M.length ≠ 0 ∧ a ≤ M.getD (M.length - 1) 0 then none else goM lp rp f (M ++ [a, b]) (N ++ [lp]) l' (c :: d :: r'))
    | _, _ => some (M, N)
theorem and_one : ∀ n : Nat, n < 201 → bits .and .i64 (n : Int) 1 = ((n % 2 : Nat) : Int) := by decide +kernel
theorem noRune_any (w : World) : Calls Try.prog 47 #[] w fun e w' => e = .returned (.slice (some ⟨w.heap.size, 0, none⟩) 0 0) ∧ w' = w.alloc (.cells #[] 21) := by
  go_enter Try.func47, Try.ntmps47
  go_wp2
  go_ret
  exact ⟨rfl, rfl⟩
theorem noNext_any (w : World) : Calls Try.prog 48 #[] w fun e w' => e = .returned (.slice (some ⟨w.heap.size, 0, none⟩) 1 1) ∧ w' = w.alloc (.cells #[.int .u32 4294967295] 27) := by
  go_enter Try.func48, Try.ntmps48
  go_wp2
  go_ret
  exact ⟨rfl, rfl⟩
section
set_option maxRecDepth 100000 in
set_option maxHeartbeats 4000000 in
theorem merge_done (bo bm bn : Nat) (u : FrameMode) (w : World) (ho : w.cell? ⟨bo, 0, none⟩ = some (.bool true)) :
    CallsD Try.prog 45 #[.pointer (some ⟨bo, 0, none⟩), .pointer (some ⟨bm, 0, none⟩), .pointer (some ⟨bn, 0, none⟩)] u w fun e u' w' => u' = u ∧ (e = .returned (.tuple #[]) ∧ w' = w) := by
  go_enter_d Try.func45, Try.ntmps45
  go_wp2
  go_end0
  exact ⟨rfl, rfl⟩
end
theorem merge_start (w : World) : St ((((((((w.alloc (.cells #[.int .i64 0] 3)).alloc (.cells #[.int .i64 0] 3)).alloc (.cells #[] 21)).alloc (.cells #[.slice (some ⟨w.heap.size + 1 + 1, 0, none⟩) 0 0] 26)).alloc (.cells #[] 27)).alloc (.cells #[.slice (some ⟨w.heap.size + 1 + 1 + 1 + 1, 0, none⟩) 0 0] 29)).alloc (.cells #[.bool true] 4)).alloc (.cells #[.int .i64 (-1)] 3)) ((((((((w.alloc (.cells #[.int .i64 0] 3)).alloc (.cells #[.int .i64 0] 3)).alloc (.cells #[] 21)).alloc (.cells #[.slice (some ⟨w.heap.size + 1 + 1, 0, none⟩) 0 0] 26)).alloc (.cells #[] 27)).alloc (.cells #[.slice (some ⟨w.heap.size + 1 + 1 + 1 + 1, 0, none⟩) 0 0] 29)).alloc (.cells #[.bool true] 4)).alloc (.cells #[.int .i64 (-1)] 3)) w.heap.size (w.heap.size) (w.heap.size + 1 + 1 + 1 + 1 + 1 + 1 + 1) (w.heap.size + 1 + 1 + 1) (w.heap.size + 1 + 1 + 1 + 1 + 1) 0 (-1) (.slice (some ⟨w.heap.size + 1 + 1, 0, none⟩) 0 0) (.slice (some ⟨w.heap.size + 1 + 1 + 1 + 1, 0, none⟩) 0 0) [] [] ∧
    ((((((((w.alloc (.cells #[.int .i64 0] 3)).alloc (.cells #[.int .i64 0] 3)).alloc (.cells #[] 21)).alloc (.cells #[.slice (some ⟨w.heap.size + 1 + 1, 0, none⟩) 0 0] 26)).alloc (.cells #[] 27)).alloc (.cells #[.slice (some ⟨w.heap.size + 1 + 1 + 1 + 1, 0, none⟩) 0 0] 29)).alloc (.cells #[.bool true] 4)).alloc (.cells #[.int .i64 (-1)] 3)).heap[w.heap.size + 1]? = some (.cells #[.int .i64 0] 3 (0, 0)) ∧ ((((((((w.alloc (.cells #[.int .i64 0] 3)).alloc (.cells #[.int .i64 0] 3)).alloc (.cells #[] 21)).alloc (.cells #[.slice (some ⟨w.heap.size + 1 + 1, 0, none⟩) 0 0] 26)).alloc (.cells #[] 27)).alloc (.cells #[.slice (some ⟨w.heap.size + 1 + 1 + 1 + 1, 0, none⟩) 0 0] 29)).alloc (.cells #[.bool true] 4)).alloc (.cells #[.int .i64 (-1)] 3)).heap[w.heap.size + 1 + 1 + 1 + 1 + 1 + 1]? = some (.cells #[.bool true] 4 (0, 0)) ∧ Below w.heap.size w ((((((((w.alloc (.cells #[.int .i64 0] 3)).alloc (.cells #[.int .i64 0] 3)).alloc (.cells #[] 21)).alloc (.cells #[.slice (some ⟨w.heap.size + 1 + 1, 0, none⟩) 0 0] 26)).alloc (.cells #[] 27)).alloc (.cells #[.slice (some ⟨w.heap.size + 1 + 1 + 1 + 1, 0, none⟩) 0 0] 29)).alloc (.cells #[.bool true] 4)).alloc (.cells #[.int .i64 (-1)] 3)) ∧ ((((((((w.alloc (.cells #[.int .i64 0] 3)).alloc (.cells #[.int .i64 0] 3)).alloc (.cells #[] 21)).alloc (.cells #[.slice (some ⟨w.heap.size + 1 + 1, 0, none⟩) 0 0] 26)).alloc (.cells #[] 27)).alloc (.cells #[.slice (some ⟨w.heap.size + 1 + 1 + 1 + 1, 0, none⟩) 0 0] 29)).alloc (.cells #[.bool true] 4)).alloc (.cells #[.int .i64 (-1)] 3)).heap.size = w.heap.size + 8 := by
  have s0 : w.heap.size = w.heap.size := by simp
  have s1 : (w.alloc (.cells #[.int .i64 0] 3)).heap.size = w.heap.size + 1 := by simp
  have s2 : ((w.alloc (.cells #[.int .i64 0] 3)).alloc (.cells #[.int .i64 0] 3)).heap.size = w.heap.size + 1 + 1 := by simp
  have s3 : (((w.alloc (.cells #[.int .i64 0] 3)).alloc (.cells #[.int .i64 0] 3)).alloc (.cells #[] 21)).heap.size = w.heap.size + 1 + 1 + 1 := by simp
  have s4 : ((((w.alloc (.cells #[.int .i64 0] 3)).alloc (.cells #[.int .i64 0] 3)).alloc (.cells #[] 21)).alloc (.cells #[.slice (some ⟨w.heap.size + 1 + 1, 0, none⟩) 0 0] 26)).heap.size = w.heap.size + 1 + 1 + 1 + 1 := by simp
  have s5 : (((((w.alloc (.cells #[.int .i64 0] 3)).alloc (.cells #[.int .i64 0] 3)).alloc (.cells #[] 21)).alloc (.cells #[.slice (some ⟨w.heap.size + 1 + 1, 0, none⟩) 0 0] 26)).alloc (.cells #[] 27)).heap.size = w.heap.size + 1 + 1 + 1 + 1 + 1 := by simp
  have s6 : ((((((w.alloc (.cells #[.int .i64 0] 3)).alloc (.cells #[.int .i64 0] 3)).alloc (.cells #[] 21)).alloc (.cells #[.slice (some ⟨w.heap.size + 1 + 1, 0, none⟩) 0 0] 26)).alloc (.cells #[] 27)).alloc (.cells #[.slice (some ⟨w.heap.size + 1 + 1 + 1 + 1, 0, none⟩) 0 0] 29)).heap.size = w.heap.size + 1 + 1 + 1 + 1 + 1 + 1 := by simp
  have s7 : (((((((w.alloc (.cells #[.int .i64 0] 3)).alloc (.cells #[.int .i64 0] 3)).alloc (.cells #[] 21)).alloc (.cells #[.slice (some ⟨w.heap.size + 1 + 1, 0, none⟩) 0 0] 26)).alloc (.cells #[] 27)).alloc (.cells #[.slice (some ⟨w.heap.size + 1 + 1 + 1 + 1, 0, none⟩) 0 0] 29)).alloc (.cells #[.bool true] 4)).heap.size = w.heap.size + 1 + 1 + 1 + 1 + 1 + 1 + 1 := by simp
  have k0 := blk_new w (.cells #[.int .i64 0] 3)
  rw [s0] at k0
  replace k0 := blk_old k0 (.cells #[.int .i64 0] 3)
  replace k0 := blk_old k0 (.cells #[] 21)
  replace k0 := blk_old k0 (.cells #[.slice (some ⟨w.heap.size + 1 + 1, 0, none⟩) 0 0] 26)
  replace k0 := blk_old k0 (.cells #[] 27)
  replace k0 := blk_old k0 (.cells #[.slice (some ⟨w.heap.size + 1 + 1 + 1 + 1, 0, none⟩) 0 0] 29)
  replace k0 := blk_old k0 (.cells #[.bool true] 4)
  replace k0 := blk_old k0 (.cells #[.int .i64 (-1)] 3)
  have k1 := blk_new (w.alloc (.cells #[.int .i64 0] 3)) (.cells #[.int .i64 0] 3)
  rw [s1] at k1
  replace k1 := blk_old k1 (.cells #[] 21)
  replace k1 := blk_old k1 (.cells #[.slice (some ⟨w.heap.size + 1 + 1, 0, none⟩) 0 0] 26)
  replace k1 := blk_old k1 (.cells #[] 27)
  replace k1 := blk_old k1 (.cells #[.slice (some ⟨w.heap.size + 1 + 1 + 1 + 1, 0, none⟩) 0 0] 29)
  replace k1 := blk_old k1 (.cells #[.bool true] 4)
  replace k1 := blk_old k1 (.cells #[.int .i64 (-1)] 3)
  have k2 := blk_new ((w.alloc (.cells #[.int .i64 0] 3)).alloc (.cells #[.int .i64 0] 3)) (.cells #[] 21)
  rw [s2] at k2
  replace k2 := blk_old k2 (.cells #[.slice (some ⟨w.heap.size + 1 + 1, 0, none⟩) 0 0] 26)
  replace k2 := blk_old k2 (.cells #[] 27)
  replace k2 := blk_old k2 (.cells #[.slice (some ⟨w.heap.size + 1 + 1 + 1 + 1, 0, none⟩) 0 0] 29)
  replace k2 := blk_old k2 (.cells #[.bool true] 4)
  replace k2 := blk_old k2 (.cells #[.int .i64 (-1)] 3)
  have k3 := blk_new (((w.alloc (.cells #[.int .i64 0] 3)).alloc (.cells #[.int .i64 0] 3)).alloc (.cells #[] 21)) (.cells #[.slice (some ⟨w.heap.size + 1 + 1, 0, none⟩) 0 0] 26)
  rw [s3] at k3
  replace k3 := blk_old k3 (.cells #[] 27)
  replace k3 := blk_old k3 (.cells #[.slice (some ⟨w.heap.size + 1 + 1 + 1 + 1, 0, none⟩) 0 0] 29)
  replace k3 := blk_old k3 (.cells #[.bool true] 4)
  replace k3 := blk_old k3 (.cells #[.int .i64 (-1)] 3)
  have k4 := blk_new ((((w.alloc (.cells #[.int .i64 0] 3)).alloc (.cells #[.int .i64 0] 3)).alloc (.cells #[] 21)).alloc (.cells #[.slice (some ⟨w.heap.size + 1 + 1, 0, none⟩) 0 0] 26)) (.cells #[] 27)
  rw [s4] at k4
  replace k4 := blk_old k4 (.cells #[.slice (some ⟨w.heap.size + 1 + 1 + 1 + 1, 0, none⟩) 0 0] 29)
  replace k4 := blk_old k4 (.cells #[.bool true] 4)
  replace k4 := blk_old k4 (.cells #[.int .i64 (-1)] 3)
  have k5 := blk_new (((((w.alloc (.cells #[.int .i64 0] 3)).alloc (.cells #[.int .i64 0] 3)).alloc (.cells #[] 21)).alloc (.cells #[.slice (some ⟨w.heap.size + 1 + 1, 0, none⟩) 0 0] 26)).alloc (.cells #[] 27)) (.cells #[.slice (some ⟨w.heap.size + 1 + 1 + 1 + 1, 0, none⟩) 0 0] 29)
  rw [s5] at k5
  replace k5 := blk_old k5 (.cells #[.bool true] 4)
  replace k5 := blk_old k5 (.cells #[.int .i64 (-1)] 3)
  have k6 := blk_new ((((((w.alloc (.cells #[.int .i64 0] 3)).alloc (.cells #[.int .i64 0] 3)).alloc (.cells #[] 21)).alloc (.cells #[.slice (some ⟨w.heap.size + 1 + 1, 0, none⟩) 0 0] 26)).alloc (.cells #[] 27)).alloc (.cells #[.slice (some ⟨w.heap.size + 1 + 1 + 1 + 1, 0, none⟩) 0 0] 29)) (.cells #[.bool true] 4)
  rw [s6] at k6
  replace k6 := blk_old k6 (.cells #[.int .i64 (-1)] 3)
  have k7 := blk_new (((((((w.alloc (.cells #[.int .i64 0] 3)).alloc (.cells #[.int .i64 0] 3)).alloc (.cells #[] 21)).alloc (.cells #[.slice (some ⟨w.heap.size + 1 + 1, 0, none⟩) 0 0] 26)).alloc (.cells #[] 27)).alloc (.cells #[.slice (some ⟨w.heap.size + 1 + 1 + 1 + 1, 0, none⟩) 0 0] 29)).alloc (.cells #[.bool true] 4)) (.cells #[.int .i64 (-1)] 3)
  rw [s7] at k7
  have r2 := World.ownsRow_lit (base := w.heap.size) (size := 1) (e := 21) ((w.alloc (.cells #[.int .i64 0] 3)).alloc (.cells #[.int .i64 0] 3)) #[] 0 (by rw [s2]; omega) (by simp) (by simp)
  rw [s2] at r2
  have r4 := World.ownsRow_lit (base := w.heap.size) (size := 1) (e := 27) ((((w.alloc (.cells #[.int .i64 0] 3)).alloc (.cells #[.int .i64 0] 3)).alloc (.cells #[] 21)).alloc (.cells #[.slice (some ⟨w.heap.size + 1 + 1, 0, none⟩) 0 0] 26)) #[] 0 (by rw [s4]; omega) (by simp) (by simp)
  rw [s4] at r4
  have b8 : Below w.heap.size w ((((((((w.alloc (.cells #[.int .i64 0] 3)).alloc (.cells #[.int .i64 0] 3)).alloc (.cells #[] 21)).alloc (.cells #[.slice (some ⟨w.heap.size + 1 + 1, 0, none⟩) 0 0] 26)).alloc (.cells #[] 27)).alloc (.cells #[.slice (some ⟨w.heap.size + 1 + 1 + 1 + 1, 0, none⟩) 0 0] 29)).alloc (.cells #[.bool true] 4)).alloc (.cells #[.int .i64 (-1)] 3)) := by
    refine ((((((((Below.refl _ w).alloc ?_ _).alloc ?_ _).alloc ?_ _).alloc ?_ _).alloc ?_ _).alloc ?_ _).alloc ?_ _).alloc ?_ _ <;> simp <;> omega
  refine ⟨⟨k7, k0, k3, k5, (((((r2.alloc _).alloc _).alloc _).alloc _).alloc _), (((r4.alloc _).alloc _).alloc _), Below.refl _ _, fun b cs t h _ _ _ _ _ _ => h⟩, k1, k6, b8, by simp⟩
theorem St.cast {w W : World} {B pl bi bm bn : Nat} {iv ixv iv' ixv' : Int} {vm vn vm' vn' : Value} {M N : List Int} (h : St w W B pl bi bm bn iv ixv vm vn M N) (e1 : iv = iv') (e2 : ixv = ixv') (e3 : vm = vm') (e4 : vn = vn') : St w W B pl bi bm bn iv' ixv' vm' vn' M N := by
  subst e1 e2 e3 e4; exact h
theorem St.self {w W : World} {B pl bi bm bn : Nat} {iv ixv : Int} {vm vn : Value} {M N : List Int} (h : St w W B pl bi bm bn iv ixv vm vn M N) : St W W B pl bi bm bn iv ixv vm vn M N :=
  ⟨h.hix, h.hpl, h.hbm, h.hbn, h.hom, h.hon, Below.refl _ _, fun _ _ _ h _ _ _ _ _ _ => h⟩
theorem St.other {w W : World} {B pl bi bm bn : Nat} {iv ixv : Int} {vm vn : Value} {M N : List Int} (h : St w W B pl bi bm bn iv ixv vm vn M N) {p : Nat} {v : Int} (hp : W.heap[p]? = some (.cells #[.int .i64 v] 3 (0, 0))) : St W W B p bi bm bn v ixv vm vn M N :=
  ⟨h.hix, hp, h.hbm, h.hbn, h.hom, h.hon, Below.refl _ _, fun _ _ _ h _ _ _ _ _ _ => h⟩
theorem St.poke {w W : World} {B pl bi bm bn : Nat} {iv ixv : Int} {vm vn : Value} {M N : List Int} (h : St w W B pl bi bm bn iv ixv vm vn M N) {b : Nat} {v : Value} (hb : W.heap[b]? = some (.cells #[v] 4 (0, 0))) (u : Value) :
    St (W.setCell ⟨b, 0, none⟩ u) (W.setCell ⟨b, 0, none⟩ u) B pl bi bm bn iv ixv vm vn M N :=
  ⟨blk_set_ne h.hix (blk_apart h.hix hb (by decide)) _, blk_set_ne h.hpl (blk_apart h.hpl hb (by decide)) _, blk_set_ne h.hbm (blk_apart h.hbm hb (by decide)) _, blk_set_ne h.hbn (blk_apart h.hbn hb (by decide)) _,
    ownsRow_setCell_other h.hom (Ne.symm (own_apart h.hom hb (by decide))) _, ownsRow_setCell_other h.hon (Ne.symm (own_apart h.hon hb (by decide))) _, Below.refl _ _, fun _ _ _ h _ _ _ _ _ _ => h⟩
/-- What the merging hands back. -/
def MPost (w' : World) (vM vN : Value) : Option (List Int × List Int) → Prop
  | some (M, N) => ∃ g c gn cn, vM = .slice (some ⟨g, 0, none⟩) M.length c ∧ vN = .slice (some ⟨gn, 0, none⟩) N.length cn ∧ IntsAt w' w'.heap.size .i32 (some ⟨g, 0, none⟩) M ∧ IntsAt w' w'.heap.size .u32 (some ⟨gn, 0, none⟩) N
  | none => ∃ A gn, vM = .slice A 0 0 ∧ vN = .slice (some ⟨gn, 0, none⟩) 1 1 ∧ w'.cell? ⟨gn, 0, none⟩ = some (.int .u32 4294967295) ∧ gn < w'.heap.size
theorem merge_undone (bo bm bn : Nat) (vm vn : Value) (u : FrameMode) (w : World) (ho : w.cell? ⟨bo, 0, none⟩ = some (.bool false)) (hm : w.heap[bm]? = some (.cells #[vm] 26 (0, 0))) (hn : w.heap[bn]? = some (.cells #[vn] 29 (0, 0))) :
    CallsD Try.prog 45 #[.pointer (some ⟨bo, 0, none⟩), .pointer (some ⟨bm, 0, none⟩), .pointer (some ⟨bn, 0, none⟩)] u w fun e u' w' => u' = u ∧ (e = .returned (.tuple #[]) ∧ w' = (w.setCell ⟨bm, 0, none⟩ (.slice none 0 0)).setCell ⟨bn, 0, none⟩ (.slice none 0 0)) := by
  have c1 := cell_of_one hm
  have c2 := free_of_one hm
  have c3 := cell_of_one hn
  have c4 := free_of_one hn
  have hne : bn ≠ bm := blk_apart hn hm (by decide)
  go_enter_d Try.func45, Try.ntmps45
  go_wp2
  go_end0
  exact ⟨rfl, rfl⟩
section
variable (pL pR nl nr cl cr : Nat) (Al Ar : Option Addr) (ls rs : List Int) (lp rp : Int) (w : World)
set_option maxRecDepth 100000 in
set_option maxHeartbeats 4000000 in
theorem merge_any (hL : w.heap[pL]? = some (.cells #[.slice Al ls.length cl] 26 (0, 0))) (hR : w.heap[pR]? = some (.cells #[.slice Ar rs.length cr] 26 (0, 0)))
    (zl : IntsAt w w.heap.size .i32 Al ls) (zr : IntsAt w w.heap.size .i32 Ar rs) (el : ls.length % 2 = 0) (er : rs.length % 2 = 0) (ml : ls.length ≤ 200) (mr : rs.length ≤ 200) :
    Calls Try.prog 36 #[.pointer (some ⟨pL, 0, none⟩), .pointer (some ⟨pR, 0, none⟩), .int .u32 lp, .int .u32 rp] w fun e w' => ∃ vM vN, e = .returned (.tuple #[vM, vN]) ∧ Below w.heap.size w w' ∧ MPost w' vM vN (goM lp rp (ls.length + rs.length) [] [] ls rs) := by
  have hmf : ∀ (fn : Fn) (first cap : Array Value) (w : World), (Instr.makeFunc fn first cap).run Try.prog w = .ok (.func fn first cap) w := fun _ _ _ _ => rfl
  have cL := cell_of_one hL
  have cR := cell_of_one hR
  have kL := lt_of_block hL
  have kR := lt_of_block hR
  have hmkI : ∀ w : World, (Instr.makeSlice 26 (.int .i64 0) (.int .i64 0)).run Try.prog w = .ok (.slice (some ⟨w.heap.size, 0, none⟩) 0 0) (w.alloc (.cells #[] 21)) :=
    fun w => by
      have h := run_make_row' (P := Try.prog) 26 21 (.int .i32 0) 4 (by kernel_rfl) infoI rfl .i64 .i64 0 (by omega) (by omega) w
      have e0 : madeCells #[.int .i32 0] 0 = #[] := by simp [madeCells]
      rw [e0] at h
      exact h
  have hmkU : ∀ w : World, (Instr.makeSlice 29 (.int .i64 0) (.int .i64 0)).run Try.prog w = .ok (.slice (some ⟨w.heap.size, 0, none⟩) 0 0) (w.alloc (.cells #[] 27)) :=
    fun w => by
      have h := run_make_row' (P := Try.prog) 29 27 (.int .u32 0) 4 (by kernel_rfl) infoU rfl .i64 .i64 0 (by omega) (by omega) w
      have e0 : madeCells #[.int .u32 0] 0 = #[] := by simp [madeCells]
      rw [e0] at h
      exact h
  obtain ⟨hS, hj, ho, hbw, hsz⟩ := merge_start w
  have hb1 : bits .and .i64 (ls.length : Int) 1 = 0 := by rw [and_one _ (by omega), el]; rfl
  have hb2 : bits .and .i64 (rs.length : Int) 1 = 0 := by rw [and_one _ (by omega), er]; rfl
  go_enter_defers Try.func36, Try.ntmps36
  go_wp2_with fail
  generalize ((((((((w.alloc (.cells #[.int .i64 0] 3)).alloc (.cells #[.int .i64 0] 3)).alloc (.cells #[] 21)).alloc (.cells #[.slice (some ⟨w.heap.size + 1 + 1, 0, none⟩) 0 0] 26)).alloc (.cells #[] 27)).alloc (.cells #[.slice (some ⟨w.heap.size + 1 + 1 + 1 + 1, 0, none⟩) 0 0] 29)).alloc (.cells #[.bool true] 4)).alloc (.cells #[.int .i64 (-1)] 3)) = W0 at *
  have HL := Lib.hid hL
  have HR := Lib.hid hR
  have HS := Lib.hid hS
  have HBW := Lib.hid hbw
  have HZL := Lib.hid zl
  have HZR := Lib.hid zr
  have HJ := Lib.hid hj
  have HO := Lib.hid ho
  have HEL := Lib.hid el
  have HER := Lib.hid er
  clear hL hR hS hbw zl zr hj ho cL cR hb1 hb2 hmf hmkI hmkU el er
  generalize hbi : w.heap.size + 1 + 1 + 1 + 1 + 1 + 1 + 1 = bi at *
  generalize hbo : w.heap.size + 1 + 1 + 1 + 1 + 1 + 1 = bo at *
  generalize hbn : w.heap.size + 1 + 1 + 1 + 1 + 1 = bn at *
  generalize hgN : w.heap.size + 1 + 1 + 1 + 1 = gN at *
  generalize hbm : w.heap.size + 1 + 1 + 1 = bm at *
  generalize hgM : w.heap.size + 1 + 1 = gM at *
  generalize hbr : w.heap.size + 1 = br at *
  obtain ⟨nl, hnl⟩ : ∃ k, ls.length = k := ⟨_, rfl⟩
  obtain ⟨nr, hnr⟩ : ∃ k, rs.length = k := ⟨_, rfl⟩
  rw [hnl, hnr]
  rw [hnl] at ml HL HEL
  rw [hnr] at mr HR HER
  have HNL := Lib.hid hnl; clear hnl
  have HNR := Lib.hid hnr; clear hnr
  have obi : w.heap.size ≤ bi := by omega
  have obm : w.heap.size ≤ bm := by omega
  have obn : w.heap.size ≤ bn := by omega
  have obr : w.heap.size ≤ br := by omega
  have obo : w.heap.size ≤ bo := by omega
  have nbr : br ≠ w.heap.size := by omega
  have nri : br ≠ bi := by omega
  have nli : w.heap.size ≠ bi := by omega
  clear hbi hbo hbn hgN hbm hgM hbr
  generalize hB : w.heap.size = B at *
  have HBE := Lib.hid hB; clear hB
  go_loopg [] (nl + nr + 1) (fun gk wx => ∃ (i j f g cm gn cn : Nat) (M N : List Int), i ≤ nl ∧ j ≤ nr ∧ Hid (i % 2 = 0) ∧ Hid (j % 2 = 0) ∧ nl - i + (nr - j) < gk ∧ Hid (nl - i + (nr - j) ≤ f) ∧ Hid (M.length = i + j) ∧ N.length ≤ 400 ∧ Hid (2 * N.length = i + j) ∧ Hid (goM lp rp (nl + nr) [] [] ls rs = goM lp rp f M N (ls.drop i) (rs.drop j)) ∧
    Hid (St wx wx B B bi bm bn i ((M.length : Int) - 1) (.slice (some ⟨g, 0, none⟩) M.length cm) (.slice (some ⟨gn, 0, none⟩) N.length cn) M N) ∧ Hid (wx.heap[br]? = some (.cells #[.int .i64 j] 3 (0, 0))) ∧ Hid (wx.heap[bo]? = some (.cells #[.bool true] 4 (0, 0))) ∧ Hid (Below B w wx) ∧ Hid (B ≤ wx.heap.size))
  case atStart => exact ⟨0, 0, nl + nr, gM, 0, gN, 0, [], [], by omega, by omega, rfl, rfl, by omega, Lib.hid (by omega), rfl, by simp, rfl, rfl, HS.out, HJ.out, HO.out, HBW.out, Lib.hid (by have := HBW.out.size; omega)⟩
  case round =>
    obtain ⟨i, j, f, g, cm, gn, cn, M, N, hi, hj, HI2, HJ2, hgk, HFU, HML, hnl, HNN, HGO, HST, HJC, HOC, HBX, HBS⟩ := hrel
    have q1 := cell_of_one HST.out.hpl
    have q2 := cell_of_one HJC.out
    have q3 := cell_of_one HOC.out
    have q4 := free_of_one HOC.out
    have q5 : wr.cell? ⟨pL, 0, none⟩ = some (.slice Al nl cl) := (HBX.out.cell (p := ⟨pL, 0, none⟩) kL).trans (cell_of_one HL.out)
    have q6 : wr.cell? ⟨pR, 0, none⟩ = some (.slice Ar nr cr) := (HBX.out.cell (p := ⟨pR, 0, none⟩) kR).trans (cell_of_one HR.out)
    have q7 := cell_of_one HST.out.hbm
    have q8 := cell_of_one HST.out.hbn
    have hmN : M.length ≤ 400 := by have := HML.out; omega
    obtain ⟨g', rfl⟩ : ∃ g', gk = g' + 1 := ⟨gk - 1, by omega⟩
    have nob1 : bo ≠ B := blk_apart HOC.out HST.out.hpl (by decide)
    have nob2 : bo ≠ bi := blk_apart HOC.out HST.out.hix (by decide)
    have nob3 : bo ≠ bm := blk_apart HOC.out HST.out.hbm (by decide)
    have nob4 : bo ≠ bn := blk_apart HOC.out HST.out.hbn (by decide)
    have nobr : bo ≠ br := blk_apart HOC.out HJC.out (by decide)
    have nrm : br ≠ bm := blk_apart HJC.out HST.out.hbm (by decide)
    have nrn : br ≠ bn := blk_apart HJC.out HST.out.hbn (by decide)
    have nlm : B ≠ bm := blk_apart HST.out.hpl HST.out.hbm (by decide)
    have nln : B ≠ bn := blk_apart HST.out.hpl HST.out.hbn (by decide)
    by_cases hil : i < nl
    · obtain ⟨f', hf'⟩ : ∃ f', f = f' + 1 := ⟨f - 1, by have := HFU.out; omega⟩
      subst hf'
      have hlt1i : i + 1 < nl := by have := HI2.out; have := HEL.out; omega
      obtain ⟨ab, ao, hAi, hab, hcelli⟩ := (HZL.out.below HBX.out (Nat.le_refl _)) (by rw [HNL.out]; omega)
      subst hAi
      obtain ⟨a, hva⟩ : ∃ x, ls.getD i 0 = x := ⟨_, rfl⟩
      obtain ⟨b, hvb⟩ : ∃ x, ls.getD (i + 1) 0 = x := ⟨_, rfl⟩
      have hxa := hcelli i (by rw [HNL.out]; omega)
      have hxb := hcelli (i + 1) (by rw [HNL.out]; omega)
      rw [hva] at hxa
      rw [hvb] at hxb
      have hdi := drop2 ls i (by rw [HNL.out]; omega)
      rw [hva, hvb] at hdi
      have HDL := Lib.hid hdi
      clear hdi hva hvb hcelli
      have hini : (i : Int) < (nl : Int) := by omega
      have hlti : i < nl := by omega
      by_cases hjr : j < nr
      · have hlt1j : j + 1 < nr := by have := HJ2.out; have := HER.out; omega
        obtain ⟨rb, ro, hAj, hrb, hcellj⟩ := (HZR.out.below HBX.out (Nat.le_refl _)) (by rw [HNR.out]; omega)
        subst hAj
        obtain ⟨c, hvc⟩ : ∃ x, rs.getD j 0 = x := ⟨_, rfl⟩
        obtain ⟨d, hvd⟩ : ∃ x, rs.getD (j + 1) 0 = x := ⟨_, rfl⟩
        have hxc := hcellj j (by rw [HNR.out]; omega)
        have hxd := hcellj (j + 1) (by rw [HNR.out]; omega)
        rw [hvc] at hxc
        rw [hvd] at hxd
        have hdj := drop2 rs j (by rw [HNR.out]; omega)
        rw [hvc, hvd] at hdj
        have HDR := Lib.hid hdj
        clear hdj hvc hvd hcellj
        have hinj : (j : Int) < (nr : Int) := by omega
        have hltj : j < nr := by omega
        have bA : decide ((nr : Int) ≤ (j : Int)) = false := by simp; omega
        have bB : decide ((nl : Int) ≤ (i : Int)) = false := by simp; omega
        by_cases hca : c < a
        · have bC : decide (c < a) = true := by simpa using hca
          have hstep : goM lp rp (nl + nr) [] [] ls rs = if M.length ≠ 0 ∧ c ≤ M.getD (M.length - 1) 0 then none else goM lp rp f' (M ++ [c, d]) (N ++ [rp]) (ls.drop i) (rs.drop (j + 2)) := by
            rw [HGO.out, HDL.out, HDR.out]
            simp only [goM, if_pos hca]
          have HSTEP := Lib.hid hstep; clear hstep
          have haW : ∀ q, (wr.drewN q).heap[pR]? = some (.cells #[.slice (some ⟨rb, ro, none⟩) nr cr] 26 (0, 0)) := fun q => blk_below HR.out (below_drewN HBX.out q) kR
          have HAW := Lib.hid haW; clear haW
          by_cases hbad : M.length ≠ 0 ∧ c ≤ M.getD (M.length - 1) 0
          · have hM2 : 2 ≤ M.length := by have := HML.out; have := HI2.out; have := HJ2.out; omega
            have HBAD := Lib.hid hbad; clear hbad
            go_wp2_with fail
            go_quiet (fail)
            go_wp2_with (first | (go_at_call 46; refine (Calls.mono (ext_no B bi bm bn br pR rb ro nr cr g cm gn cn M N j c rp (wr.drewN nq) ((HST.out.other HJC.out).same (W' := wr.drewN nq) rfl (below_drewN (Below.refl _ _) nq)).self hM2 (by omega) HBAD.out.2 (HAW.out nq) hxc hltj) ?_); rintro e w1 ⟨rfl, q, rfl⟩) | (go_at_call 47; refine (noRune_any _).mono ?_; rintro e w2 ⟨rfl, rfl⟩) | (go_at_call 48; refine (noNext_any _).mono ?_; rintro e w3 ⟨rfl, rfl⟩))
            refine leaves_cons (f := 45) (args := #[.pointer (some ⟨bo, 0, none⟩), .pointer (some ⟨bm, 0, none⟩), .pointer (some ⟨bn, 0, none⟩)]) (by simp) (by simp [go_sem]) ?_
            have d0 : ((wr.drewN (nq + q)).setCell ⟨bo, 0, none⟩ (.bool false)).heap[bo]? = some (.cells #[.bool false] 4 (0, 0)) := one_setCell (w := wr.drewN (nq + q)) HOC.out
            have d1 : ((wr.drewN (nq + q)).setCell ⟨bo, 0, none⟩ (.bool false)).heap[bm]? = some (.cells #[.slice (some ⟨g, 0, none⟩) M.length cm] 26 (0, 0)) := blk_set_ne (w := wr.drewN (nq + q)) HST.out.hbm (Ne.symm nob3) _
            have d2 : ((wr.drewN (nq + q)).setCell ⟨bo, 0, none⟩ (.bool false)).heap[bn]? = some (.cells #[.slice (some ⟨gn, 0, none⟩) N.length cn] 29 (0, 0)) := blk_set_ne (w := wr.drewN (nq + q)) HST.out.hbn (Ne.symm nob4) _
            have dB : Below B w ((wr.drewN (nq + q)).setCell ⟨bo, 0, none⟩ (.bool false)) := (below_drewN HBX.out (nq + q)).setCell obo _
            have dS : B ≤ ((wr.drewN (nq + q)).setCell ⟨bo, 0, none⟩ (.bool false)).heap.size := by have := HBS.out; simpa using this
            have hs5 : ((wr.drewN (nq + q)).setCell ⟨bo, 0, none⟩ (.bool false)).heap.size = wr.heap.size := by simp
            generalize (wr.drewN (nq + q)).setCell ⟨bo, 0, none⟩ (.bool false) = W5 at *
            refine (merge_undone bo bm bn _ _ .returning _ (cell_of_one (blk_old (blk_old d0 _) _)) (blk_old (blk_old d1 _) _) (blk_old (blk_old d2 _) _)).mono ?_
            rintro e u' w'' ⟨rfl, rfl, rfl⟩
            refine ⟨_, results_tmp2 rfl _ _ _, _, _, rfl, ?_, ?_⟩
            · rw [HBE.out]; exact (((dB.alloc dS _).alloc (by simp; omega) _).setCell obm _).setCell obn _
            · rw [HNL.out, HNR.out, HSTEP.out, if_pos HBAD.out]
              have hl := lt_of_block d1
              have hl2 := lt_of_block d2
              have dn := blk_new (W5.alloc (.cells #[] 21)) (.cells #[.int .u32 4294967295] 27)
              rw [show (W5.alloc (.cells #[] 21)).heap.size = wr.heap.size + 1 by simp [hs5]] at dn
              have z1 : wr.heap.size + 1 ≠ bm := by omega
              have z2 : wr.heap.size + 1 ≠ bn := by omega
              exact ⟨_, _, rfl, rfl, cell_of_one (blk_set_ne (blk_set_ne dn z1 _) z2 _), by simp; omega⟩
          · have hM2 : M.length = 0 ∨ (2 ≤ M.length ∧ M.getD (M.length - 1) 0 < c) := by have := HML.out; have := HI2.out; have := HJ2.out; omega
            have HNB := Lib.hid hbad; clear hbad
            go_wp2_with fail
            go_quiet (fail)
            go_wp2_with (go_at_call 46; refine (Calls.mono (ext_ok B bi bm bn br pR rb ro nr cr g cm gn cn M N j c d rp (wr.drewN nq) ((HST.out.other HJC.out).same (W' := wr.drewN nq) rfl (below_drewN (Below.refl _ _) nq)).self HBS.out hM2 (by omega) (by omega) (HAW.out nq) (by omega) hrb hxc hxd hlt1j (by omega) obr obi obm obn nri) ?_); rintro e w1 ⟨rfl, g2, c2, gn2, cn2, hst⟩; have HST2 := Lib.hid hst; clear hst; have hob := HST2.out.hrest bo _ _ HOC.out (by decide) (by decide) nobr nob2 nob3 nob4; have HOB := Lib.hid hob; have p1 := cell_of_one hob; have p2 := free_of_one hob; clear hob)
            go_roundg g'
            case rel => exact ⟨i, j + 2, f', g2, c2, gn2, cn2, M ++ [c, d], N ++ [rp], by omega, by omega, Lib.hid (by have := HI2.out; omega), Lib.hid (by have := HJ2.out; omega), by omega, Lib.hid (by have := HFU.out; omega), Lib.hid (by have := HML.out; simp; omega), by have := HNN.out; simp; omega, Lib.hid (by have := HNN.out; simp; omega), Lib.hid (by rw [HSTEP.out, if_neg HNB.out]), Lib.hid (((HST2.out.other (HST2.out.hrest B _ _ HST.out.hpl (by decide) (by decide) (Ne.symm nbr) nli nlm nln)).poke HOB.out (.bool true)).cast rfl (by simp; omega) (by simp) (by simp)), Lib.hid ((show _ = some (Obj.cells #[.int .i64 ((j + 2 : Nat) : Int)] 3 (0, 0)) from blk_set_ne HST2.out.hpl (blk_apart HJC.out HOC.out (by decide)) _)), Lib.hid (one_setCell HOB.out), Lib.hid (((below_drewN HBX.out nq).trans HST2.out.hbel).setCell obo _), Lib.hid (by have := HST2.out.hbel.size; have := HBS.out; simp at *; omega)⟩
            case measure => omega
        · have bC : decide (c < a) = false := by simpa using hca
          have hstep : goM lp rp (nl + nr) [] [] ls rs = if M.length ≠ 0 ∧ a ≤ M.getD (M.length - 1) 0 then none else goM lp rp f' (M ++ [a, b]) (N ++ [lp]) (ls.drop (i + 2)) (rs.drop j) := by
            rw [HGO.out, HDL.out, HDR.out]
            simp only [goM, if_neg hca]
          have HSTEP := Lib.hid hstep; clear hstep
          have haW : ∀ q, (wr.drewN q).heap[pL]? = some (.cells #[.slice (some ⟨ab, ao, none⟩) nl cl] 26 (0, 0)) := fun q => blk_below HL.out (below_drewN HBX.out q) kL
          have HAW := Lib.hid haW; clear haW
          by_cases hbad : M.length ≠ 0 ∧ a ≤ M.getD (M.length - 1) 0
          · have hM2 : 2 ≤ M.length := by have := HML.out; have := HI2.out; have := HJ2.out; omega
            have HBAD := Lib.hid hbad; clear hbad
            go_wp2_with fail
            go_quiet (fail)
            go_wp2_with (first | (go_at_call 46; refine (Calls.mono (ext_no B bi bm bn B pL ab ao nl cl g cm gn cn M N i a lp (wr.drewN nq) (HST.out.same (W' := wr.drewN nq) rfl (below_drewN (Below.refl _ _) nq)).self hM2 (by omega) HBAD.out.2 (HAW.out nq) hxa hlti) ?_); rintro e w1 ⟨rfl, q, rfl⟩) | (go_at_call 47; refine (noRune_any _).mono ?_; rintro e w2 ⟨rfl, rfl⟩) | (go_at_call 48; refine (noNext_any _).mono ?_; rintro e w3 ⟨rfl, rfl⟩))
            refine leaves_cons (f := 45) (args := #[.pointer (some ⟨bo, 0, none⟩), .pointer (some ⟨bm, 0, none⟩), .pointer (some ⟨bn, 0, none⟩)]) (by simp) (by simp [go_sem]) ?_
            have d0 : ((wr.drewN (nq + q)).setCell ⟨bo, 0, none⟩ (.bool false)).heap[bo]? = some (.cells #[.bool false] 4 (0, 0)) := one_setCell (w := wr.drewN (nq + q)) HOC.out
            have d1 : ((wr.drewN (nq + q)).setCell ⟨bo, 0, none⟩ (.bool false)).heap[bm]? = some (.cells #[.slice (some ⟨g, 0, none⟩) M.length cm] 26 (0, 0)) := blk_set_ne (w := wr.drewN (nq + q)) HST.out.hbm (Ne.symm nob3) _
            have d2 : ((wr.drewN (nq + q)).setCell ⟨bo, 0, none⟩ (.bool false)).heap[bn]? = some (.cells #[.slice (some ⟨gn, 0, none⟩) N.length cn] 29 (0, 0)) := blk_set_ne (w := wr.drewN (nq + q)) HST.out.hbn (Ne.symm nob4) _
            have dB : Below B w ((wr.drewN (nq + q)).setCell ⟨bo, 0, none⟩ (.bool false)) := (below_drewN HBX.out (nq + q)).setCell obo _
            have dS : B ≤ ((wr.drewN (nq + q)).setCell ⟨bo, 0, none⟩ (.bool false)).heap.size := by have := HBS.out; simpa using this
            have hs5 : ((wr.drewN (nq + q)).setCell ⟨bo, 0, none⟩ (.bool false)).heap.size = wr.heap.size := by simp
            generalize (wr.drewN (nq + q)).setCell ⟨bo, 0, none⟩ (.bool false) = W5 at *
            refine (merge_undone bo bm bn _ _ .returning _ (cell_of_one (blk_old (blk_old d0 _) _)) (blk_old (blk_old d1 _) _) (blk_old (blk_old d2 _) _)).mono ?_
            rintro e u' w'' ⟨rfl, rfl, rfl⟩
            refine ⟨_, results_tmp2 rfl _ _ _, _, _, rfl, ?_, ?_⟩
            · rw [HBE.out]; exact (((dB.alloc dS _).alloc (by simp; omega) _).setCell obm _).setCell obn _
            · rw [HNL.out, HNR.out, HSTEP.out, if_pos HBAD.out]
              have hl := lt_of_block d1
              have hl2 := lt_of_block d2
              have dn := blk_new (W5.alloc (.cells #[] 21)) (.cells #[.int .u32 4294967295] 27)
              rw [show (W5.alloc (.cells #[] 21)).heap.size = wr.heap.size + 1 by simp [hs5]] at dn
              have z1 : wr.heap.size + 1 ≠ bm := by omega
              have z2 : wr.heap.size + 1 ≠ bn := by omega
              exact ⟨_, _, rfl, rfl, cell_of_one (blk_set_ne (blk_set_ne dn z1 _) z2 _), by simp; omega⟩
          · have hM2 : M.length = 0 ∨ (2 ≤ M.length ∧ M.getD (M.length - 1) 0 < a) := by have := HML.out; have := HI2.out; have := HJ2.out; omega
            have HNB := Lib.hid hbad; clear hbad
            go_wp2_with fail
            go_quiet (fail)
            go_wp2_with (go_at_call 46; refine (Calls.mono (ext_ok B bi bm bn B pL ab ao nl cl g cm gn cn M N i a b lp (wr.drewN nq) (HST.out.same (W' := wr.drewN nq) rfl (below_drewN (Below.refl _ _) nq)).self HBS.out hM2 (by omega) (by omega) (HAW.out nq) (by omega) hab hxa hxb hlt1i (by omega) (Nat.le_refl _) obi obm obn nli) ?_); rintro e w1 ⟨rfl, g2, c2, gn2, cn2, hst⟩; have HST2 := Lib.hid hst; clear hst; have hob := HST2.out.hrest bo _ _ HOC.out (by decide) (by decide) nob1 nob2 nob3 nob4; have HOB := Lib.hid hob; have p1 := cell_of_one hob; have p2 := free_of_one hob; clear hob)
            go_roundg g'
            case rel => exact ⟨i + 2, j, f', g2, c2, gn2, cn2, M ++ [a, b], N ++ [lp], by omega, by omega, Lib.hid (by have := HI2.out; omega), Lib.hid (by have := HJ2.out; omega), by omega, Lib.hid (by have := HFU.out; omega), Lib.hid (by have := HML.out; simp; omega), by have := HNN.out; simp; omega, Lib.hid (by have := HNN.out; simp; omega), Lib.hid (by rw [HSTEP.out, if_neg HNB.out]), Lib.hid ((HST2.out.poke HOB.out (.bool true)).cast (by omega) (by simp; omega) (by simp) (by simp)), Lib.hid (blk_set_ne (HST2.out.hrest br _ _ HJC.out (by decide) (by decide) nbr nri nrm nrn) (blk_apart HJC.out HOC.out (by decide)) _), Lib.hid (one_setCell HOB.out), Lib.hid (((below_drewN HBX.out nq).trans HST2.out.hbel).setCell obo _), Lib.hid (by have := HST2.out.hbel.size; have := HBS.out; simp at *; omega)⟩
            case measure => omega
      · have hje : j = nr := by omega
        have HDR := Lib.hid (show rs.drop j = [] from List.drop_eq_nil_iff.2 (by rw [HNR.out]; omega))
        have bA : decide ((nr : Int) ≤ (j : Int)) = true := by simp; omega
        have bB : decide ((nl : Int) ≤ (i : Int)) = false := by simp; omega
        clear hje
        have hstep : goM lp rp (nl + nr) [] [] ls rs = if M.length ≠ 0 ∧ a ≤ M.getD (M.length - 1) 0 then none else goM lp rp f' (M ++ [a, b]) (N ++ [lp]) (ls.drop (i + 2)) (rs.drop j) := by
          rw [HGO.out, HDL.out, HDR.out]
          rfl
        have HSTEP := Lib.hid hstep; clear hstep
        have haW : ∀ q, (wr.drewN q).heap[pL]? = some (.cells #[.slice (some ⟨ab, ao, none⟩) nl cl] 26 (0, 0)) := fun q => blk_below HL.out (below_drewN HBX.out q) kL
        have HAW := Lib.hid haW; clear haW
        by_cases hbad : M.length ≠ 0 ∧ a ≤ M.getD (M.length - 1) 0
        · have hM2 : 2 ≤ M.length := by have := HML.out; have := HI2.out; have := HJ2.out; omega
          have HBAD := Lib.hid hbad; clear hbad
          go_wp2_with (first | (go_at_call 46; refine (Calls.mono (ext_no B bi bm bn B pL ab ao nl cl g cm gn cn M N i a lp wr HST.out hM2 (by omega) HBAD.out.2 (HAW.out 0) hxa hlti) ?_); rintro e w1 ⟨rfl, q, rfl⟩) | (go_at_call 47; refine (noRune_any _).mono ?_; rintro e w2 ⟨rfl, rfl⟩) | (go_at_call 48; refine (noNext_any _).mono ?_; rintro e w3 ⟨rfl, rfl⟩))
          refine leaves_cons (f := 45) (args := #[.pointer (some ⟨bo, 0, none⟩), .pointer (some ⟨bm, 0, none⟩), .pointer (some ⟨bn, 0, none⟩)]) (by simp) (by simp [go_sem]) ?_
          have d0 : ((wr.drewN q).setCell ⟨bo, 0, none⟩ (.bool false)).heap[bo]? = some (.cells #[.bool false] 4 (0, 0)) := one_setCell (w := wr.drewN q) HOC.out
          have d1 : ((wr.drewN q).setCell ⟨bo, 0, none⟩ (.bool false)).heap[bm]? = some (.cells #[.slice (some ⟨g, 0, none⟩) M.length cm] 26 (0, 0)) := blk_set_ne (w := wr.drewN q) HST.out.hbm (Ne.symm nob3) _
          have d2 : ((wr.drewN q).setCell ⟨bo, 0, none⟩ (.bool false)).heap[bn]? = some (.cells #[.slice (some ⟨gn, 0, none⟩) N.length cn] 29 (0, 0)) := blk_set_ne (w := wr.drewN q) HST.out.hbn (Ne.symm nob4) _
          have dB : Below B w ((wr.drewN q).setCell ⟨bo, 0, none⟩ (.bool false)) := (below_drewN (HBX.out) q).setCell obo _
          have dS : B ≤ ((wr.drewN q).setCell ⟨bo, 0, none⟩ (.bool false)).heap.size := by have := HBS.out; simpa using this
          have hs5 : ((wr.drewN q).setCell ⟨bo, 0, none⟩ (.bool false)).heap.size = wr.heap.size := by simp
          generalize (wr.drewN q).setCell ⟨bo, 0, none⟩ (.bool false) = W5 at *
          refine (merge_undone bo bm bn _ _ .returning _ (cell_of_one (blk_old (blk_old d0 _) _)) (blk_old (blk_old d1 _) _) (blk_old (blk_old d2 _) _)).mono ?_
          rintro e u' w'' ⟨rfl, rfl, rfl⟩
          refine ⟨_, results_tmp2 rfl _ _ _, _, _, rfl, ?_, ?_⟩
          · rw [HBE.out]; exact (((dB.alloc dS _).alloc (by simp; omega) _).setCell obm _).setCell obn _
          · rw [HNL.out, HNR.out, HSTEP.out, if_pos HBAD.out]
            have hl := lt_of_block d1
            have hl2 := lt_of_block d2
            have dn := blk_new (W5.alloc (.cells #[] 21)) (.cells #[.int .u32 4294967295] 27)
            rw [show (W5.alloc (.cells #[] 21)).heap.size = wr.heap.size + 1 by simp [hs5]] at dn
            have z1 : wr.heap.size + 1 ≠ bm := by omega
            have z2 : wr.heap.size + 1 ≠ bn := by omega
            exact ⟨_, _, rfl, rfl, cell_of_one (blk_set_ne (blk_set_ne dn z1 _) z2 _), by simp; omega⟩
        · have hM2 : M.length = 0 ∨ (2 ≤ M.length ∧ M.getD (M.length - 1) 0 < a) := by have := HML.out; have := HI2.out; have := HJ2.out; omega
          have HNB := Lib.hid hbad; clear hbad
          go_wp2_with (go_at_call 46; refine (Calls.mono (ext_ok B bi bm bn B pL ab ao nl cl g cm gn cn M N i a b lp wr HST.out HBS.out hM2 (by omega) (by omega) (HAW.out 0) (by omega) hab hxa hxb hlt1i (by omega) (Nat.le_refl _) obi obm obn nli) ?_); rintro e w1 ⟨rfl, g2, c2, gn2, cn2, hst⟩; have HST2 := Lib.hid hst; clear hst; have hob := HST2.out.hrest bo _ _ HOC.out (by decide) (by decide) nob1 nob2 nob3 nob4; have HOB := Lib.hid hob; have p1 := cell_of_one hob; have p2 := free_of_one hob; clear hob)
          go_roundg g'
          case rel => exact ⟨i + 2, j, f', g2, c2, gn2, cn2, M ++ [a, b], N ++ [lp], by omega, by omega, Lib.hid (by have := HI2.out; omega), Lib.hid (by have := HJ2.out; omega), by omega, Lib.hid (by have := HFU.out; omega), Lib.hid (by have := HML.out; simp; omega), by have := HNN.out; simp; omega, Lib.hid (by have := HNN.out; simp; omega), Lib.hid (by rw [HSTEP.out, if_neg HNB.out]), Lib.hid ((HST2.out.poke HOB.out (.bool true)).cast (by omega) (by simp; omega) (by simp) (by simp)), Lib.hid (blk_set_ne (HST2.out.hrest br _ _ HJC.out (by decide) (by decide) nbr nri nrm nrn) (blk_apart HJC.out HOC.out (by decide)) _), Lib.hid (one_setCell HOB.out), Lib.hid (((HBX.out).trans HST2.out.hbel).setCell obo _), Lib.hid (by have := HST2.out.hbel.size; have := HBS.out; simp at *; omega)⟩
          case measure => omega
    · have hie : i = nl := by omega
      by_cases hjr : j < nr
      · obtain ⟨f', hf'⟩ : ∃ f', f = f' + 1 := ⟨f - 1, by have := HFU.out; omega⟩
        subst hf'
        have hlt1j : j + 1 < nr := by have := HJ2.out; have := HER.out; omega
        obtain ⟨rb, ro, hAj, hrb, hcellj⟩ := (HZR.out.below HBX.out (Nat.le_refl _)) (by rw [HNR.out]; omega)
        subst hAj
        obtain ⟨c, hvc⟩ : ∃ x, rs.getD j 0 = x := ⟨_, rfl⟩
        obtain ⟨d, hvd⟩ : ∃ x, rs.getD (j + 1) 0 = x := ⟨_, rfl⟩
        have hxc := hcellj j (by rw [HNR.out]; omega)
        have hxd := hcellj (j + 1) (by rw [HNR.out]; omega)
        rw [hvc] at hxc
        rw [hvd] at hxd
        have hdj := drop2 rs j (by rw [HNR.out]; omega)
        rw [hvc, hvd] at hdj
        have HDR := Lib.hid hdj
        clear hdj hvc hvd hcellj
        have hinj : (j : Int) < (nr : Int) := by omega
        have hltj : j < nr := by omega
        have HDL := Lib.hid (show ls.drop i = [] from List.drop_eq_nil_iff.2 (by rw [HNL.out]; omega))
        have b1 : decide ((i : Int) < (nl : Int)) = false := by simp; omega
        have bA : decide ((nr : Int) ≤ (j : Int)) = false := by simp; omega
        have bB : decide ((nl : Int) ≤ (i : Int)) = true := by simp; omega
        clear hie
        have hstep : goM lp rp (nl + nr) [] [] ls rs = if M.length ≠ 0 ∧ c ≤ M.getD (M.length - 1) 0 then none else goM lp rp f' (M ++ [c, d]) (N ++ [rp]) (ls.drop i) (rs.drop (j + 2)) := by
          rw [HGO.out, HDL.out, HDR.out]
          rfl
        have HSTEP := Lib.hid hstep; clear hstep
        have haW : ∀ q, (wr.drewN q).heap[pR]? = some (.cells #[.slice (some ⟨rb, ro, none⟩) nr cr] 26 (0, 0)) := fun q => blk_below HR.out (below_drewN HBX.out q) kR
        have HAW := Lib.hid haW; clear haW
        by_cases hbad : M.length ≠ 0 ∧ c ≤ M.getD (M.length - 1) 0
        · have hM2 : 2 ≤ M.length := by have := HML.out; have := HI2.out; have := HJ2.out; omega
          have HBAD := Lib.hid hbad; clear hbad
          go_wp2_with (first | (go_at_call 46; refine (Calls.mono (ext_no B bi bm bn br pR rb ro nr cr g cm gn cn M N j c rp wr (HST.out.other HJC.out) hM2 (by omega) HBAD.out.2 (HAW.out 0) hxc hltj) ?_); rintro e w1 ⟨rfl, q, rfl⟩) | (go_at_call 47; refine (noRune_any _).mono ?_; rintro e w2 ⟨rfl, rfl⟩) | (go_at_call 48; refine (noNext_any _).mono ?_; rintro e w3 ⟨rfl, rfl⟩))
          refine leaves_cons (f := 45) (args := #[.pointer (some ⟨bo, 0, none⟩), .pointer (some ⟨bm, 0, none⟩), .pointer (some ⟨bn, 0, none⟩)]) (by simp) (by simp [go_sem]) ?_
          have d0 : ((wr.drewN q).setCell ⟨bo, 0, none⟩ (.bool false)).heap[bo]? = some (.cells #[.bool false] 4 (0, 0)) := one_setCell (w := wr.drewN q) HOC.out
          have d1 : ((wr.drewN q).setCell ⟨bo, 0, none⟩ (.bool false)).heap[bm]? = some (.cells #[.slice (some ⟨g, 0, none⟩) M.length cm] 26 (0, 0)) := blk_set_ne (w := wr.drewN q) HST.out.hbm (Ne.symm nob3) _
          have d2 : ((wr.drewN q).setCell ⟨bo, 0, none⟩ (.bool false)).heap[bn]? = some (.cells #[.slice (some ⟨gn, 0, none⟩) N.length cn] 29 (0, 0)) := blk_set_ne (w := wr.drewN q) HST.out.hbn (Ne.symm nob4) _
          have dB : Below B w ((wr.drewN q).setCell ⟨bo, 0, none⟩ (.bool false)) := (below_drewN (HBX.out) q).setCell obo _
          have dS : B ≤ ((wr.drewN q).setCell ⟨bo, 0, none⟩ (.bool false)).heap.size := by have := HBS.out; simpa using this
          have hs5 : ((wr.drewN q).setCell ⟨bo, 0, none⟩ (.bool false)).heap.size = wr.heap.size := by simp
          generalize (wr.drewN q).setCell ⟨bo, 0, none⟩ (.bool false) = W5 at *
          refine (merge_undone bo bm bn _ _ .returning _ (cell_of_one (blk_old (blk_old d0 _) _)) (blk_old (blk_old d1 _) _) (blk_old (blk_old d2 _) _)).mono ?_
          rintro e u' w'' ⟨rfl, rfl, rfl⟩
          refine ⟨_, results_tmp2 rfl _ _ _, _, _, rfl, ?_, ?_⟩
          · rw [HBE.out]; exact (((dB.alloc dS _).alloc (by simp; omega) _).setCell obm _).setCell obn _
          · rw [HNL.out, HNR.out, HSTEP.out, if_pos HBAD.out]
            have hl := lt_of_block d1
            have hl2 := lt_of_block d2
            have dn := blk_new (W5.alloc (.cells #[] 21)) (.cells #[.int .u32 4294967295] 27)
            rw [show (W5.alloc (.cells #[] 21)).heap.size = wr.heap.size + 1 by simp [hs5]] at dn
            have z1 : wr.heap.size + 1 ≠ bm := by omega
            have z2 : wr.heap.size + 1 ≠ bn := by omega
            exact ⟨_, _, rfl, rfl, cell_of_one (blk_set_ne (blk_set_ne dn z1 _) z2 _), by simp; omega⟩
        · have hM2 : M.length = 0 ∨ (2 ≤ M.length ∧ M.getD (M.length - 1) 0 < c) := by have := HML.out; have := HI2.out; have := HJ2.out; omega
          have HNB := Lib.hid hbad; clear hbad
          go_wp2_with (go_at_call 46; refine (Calls.mono (ext_ok B bi bm bn br pR rb ro nr cr g cm gn cn M N j c d rp wr (HST.out.other HJC.out) HBS.out hM2 (by omega) (by omega) (HAW.out 0) (by omega) hrb hxc hxd hlt1j (by omega) obr obi obm obn nri) ?_); rintro e w1 ⟨rfl, g2, c2, gn2, cn2, hst⟩; have HST2 := Lib.hid hst; clear hst; have hob := HST2.out.hrest bo _ _ HOC.out (by decide) (by decide) nobr nob2 nob3 nob4; have HOB := Lib.hid hob; have p1 := cell_of_one hob; have p2 := free_of_one hob; clear hob)
          go_roundg g'
          case rel => exact ⟨i, j + 2, f', g2, c2, gn2, cn2, M ++ [c, d], N ++ [rp], by omega, by omega, Lib.hid (by have := HI2.out; omega), Lib.hid (by have := HJ2.out; omega), by omega, Lib.hid (by have := HFU.out; omega), Lib.hid (by have := HML.out; simp; omega), by have := HNN.out; simp; omega, Lib.hid (by have := HNN.out; simp; omega), Lib.hid (by rw [HSTEP.out, if_neg HNB.out]), Lib.hid (((HST2.out.other (HST2.out.hrest B _ _ HST.out.hpl (by decide) (by decide) (Ne.symm nbr) nli nlm nln)).poke HOB.out (.bool true)).cast rfl (by simp; omega) (by simp) (by simp)), Lib.hid ((show _ = some (Obj.cells #[.int .i64 ((j + 2 : Nat) : Int)] 3 (0, 0)) from blk_set_ne HST2.out.hpl (blk_apart HJC.out HOC.out (by decide)) _)), Lib.hid (one_setCell HOB.out), Lib.hid (((HBX.out).trans HST2.out.hbel).setCell obo _), Lib.hid (by have := HST2.out.hbel.size; have := HBS.out; simp at *; omega)⟩
          case measure => omega
      · have hje : j = nr := by omega
        have b1 : decide ((i : Int) < (nl : Int)) = false := by simp; omega
        have b2 : decide ((j : Int) < (nr : Int)) = false := by simp; omega
        have hfin : goM lp rp (nl + nr) [] [] ls rs = some (M, N) := by
          rw [HGO.out, show ls.drop i = [] from List.drop_eq_nil_iff.2 (by rw [HNL.out]; omega), show rs.drop j = [] from List.drop_eq_nil_iff.2 (by rw [HNR.out]; omega)]
          cases f <;> rfl
        have HFIN := Lib.hid hfin; clear hfin hie hje
        go_wp2_with fail
        go_quiet (fail)
        go_wp2
        refine leaves_cons (f := 45) (args := #[.pointer (some ⟨bo, 0, none⟩), .pointer (some ⟨bm, 0, none⟩), .pointer (some ⟨bn, 0, none⟩)]) (by simp) (by simp [go_sem]) ?_
        refine (merge_done bo bm bn .returning (wr.drewN _) q3).mono ?_
        rintro e u' w'' ⟨rfl, rfl, rfl⟩
        refine ⟨_, results_tmp2 rfl _ _ _, _, _, rfl, ?_, ?_⟩
        · rw [HBE.out]; exact below_drewN HBX.out _
        rw [HNL.out, HNR.out, HFIN.out]
        exact ⟨g, cm, gn, cn, rfl, rfl, (IntsAt.own HST.out.hom).drewN _, (IntsAt.own HST.out.hon).drewN _⟩
end
end Go.Proofs.Ytholpemmakdglaa.Mem
