-- PRINTED BY print.sh 35421559b90ae4d0a3588c463048766b98c2df88dd9212a6774a882060cdf62d: not written by this session
import Derived.Test.YtcncclglmgdinaaDoorProg
import Derived.Below
import Derived.Deep.Draws
import Derived.Deep.AppendLies
import Derived.Maps.AppendAt
import Derived.OwnWalk
import Derived.Laws.BytesArg
import Derived.Laws.MakeOwn
import Derived.Laws.OwnMore
import Derived.Deep.OwnRows
import Derived.Tactics
import Derived.Lib.ConvBytes
import Derived.Laws.Slices
import Derived.WalkKit
import Derived.KernelRfl
import Derived.RowKit3
import Derived.Deep.LoopGhost
import Derived.Deep.QuietTactic
import Derived.BigQuiet
import Derived.WideLaws
import Derived.Deep.DeepCutAuto
import Derived.Deep.CutBlock
import Derived.Deep.RegionHeld3
import Derived.Laws.Rows
import Derived.Lib.AppendStr
import Derived.ArgAppend
import Derived.Laws.IdiomCopy
import Derived.OrdersHeld
import Derived.Laws.BitsLemmas
import Derived.RowKit
import Derived.Test.YtcncclglmgdinaaDoorWWords
import Derived.Test.YtcncclglmgdinaaDoorWLast
import Derived.Test.YtcncclglmgdinaaDoorWTab
import Derived.Test.YtcncclglmgdinaaDoorWFour
import Derived.Test.YtcncclglmgdinaaDoorWQPut
import Derived.Test.YtcncclglmgdinaaDoorWApart
import Derived.Test.YtcncclglmgdinaaDoorWArr
import Derived.Test.YtcncclglmgdinaaDoorWZeros
import Derived.Test.YtcncclglmgdinaaDoorWFoot
import Derived.Test.YtcncclglmgdinaaDoorWKept
import Derived.Test.YtcncclglmgdinaaDoorWShare
import Derived.Test.YtcncclglmgdinaaDoorWN
import Derived.Test.YtcncclglmgdinaaDoorWFootNe
import Derived.Test.YtcncclglmgdinaaDoorWAt
import Derived.Test.YtcncclglmgdinaaDoorWEqStruct
import Derived.Test.YtcncclglmgdinaaDoorWRepsOne
import Derived.Test.YtcncclglmgdinaaDoorWInv
import Derived.Test.YtcncclglmgdinaaDoorWInvWords
import Derived.Test.YtcncclglmgdinaaDoorWGuard
import Derived.Test.YtcncclglmgdinaaDoorWNEv
import Derived.Test.YtcncclglmgdinaaDoorWMore
namespace Go.Proofs.YtcncclglmgdinaaDoor.PFnPgStep
open Go.RowKit Go.Proofs.YtcncclglmgdinaaDoorW.PrintWords Go.Proofs.YtcncclglmgdinaaDoorW.PrintLast Go.Proofs.YtcncclglmgdinaaDoorW.PrintMore
attribute [local go_sem] max2_int min2_int max_two min_two max_three min_three max_four min_four   -- for this text's walks alone
set_option linter.unusedVariables false
set_option linter.unusedSimpArgs false



def errW : Option Int → Value
 | none => .nilIface
 | some c => .iface 0 (.int .i64 c)
theorem errW_none : errW none = .nilIface := rfl
theorem errW_some (c : Int) : errW (some c) = .iface 0 (.int .i64 c) := rfl

theorem info3 : (Tryd.prog.info? 3).map (fun i => (i.zero, i.size, i.bytes)) = some (some (.int .i64 0), 1, 8) := by kernel_rfl
-- the values' own types
/-! #### struct type 55 -/
structure S55 where
 f0 : Int
 f1 : Int
 f2 : Int
 f3 : (List Int)
def z55 : S55 := ⟨(0 : Int), (0 : Int), (0 : Int), ([] : List Int)⟩
def k55 : Kd S55 := Kd.iso (Kd.pair (Kd.int .i64) (Kd.pair (Kd.int .i64) (Kd.pair (Kd.int .i64) (Kd.slice 21 (Kd.int .i32))))) (fun x : S55 => (x.f0, x.f1, x.f2, x.f3))
theorem k55_open {w : World} {x : S55} {cs : List Value} (h : k55.K w x cs) : ∃ A3 c3, cs = [.int .i64 x.f0, .int .i64 x.f1, .int .i64 x.f2, .slice A3 x.f3.length c3] ∧ x.f3.length ≤ c3 ∧ (Kd.int .i32).C w A3 x.f3.length x.f3 := by
 obtain ⟨_, _, rfl, rfl, ⟨_, _, rfl, rfl, ⟨_, _, rfl, rfl, ⟨A3, c3, rfl, l3, g3⟩⟩⟩⟩ := h
 exact ⟨A3, c3, rfl, l3, g3⟩
theorem k55_mk (w : World) (x : S55) {A3 : Option Addr} {c3 : Nat} (l3 : x.f3.length ≤ c3) (g3 : (Kd.int .i32).C w A3 x.f3.length x.f3) : k55.K w x [.int .i64 x.f0, .int .i64 x.f1, .int .i64 x.f2, .slice A3 x.f3.length c3] := ⟨[.int .i64 x.f0], [.int .i64 x.f1, .int .i64 x.f2, .slice A3 x.f3.length c3], rfl, rfl, ⟨[.int .i64 x.f1], [.int .i64 x.f2, .slice A3 x.f3.length c3], rfl, rfl, ⟨[.int .i64 x.f2], [.slice A3 x.f3.length c3], rfl, rfl, ⟨A3, c3, rfl, l3, g3⟩⟩⟩⟩
def rd_T55 (xs : List S55) (i : Int) : S55 := xs.getD i.toNat z55
theorem at_T55 {w : World} {A : Option Addr} {n : Nat} {xs : List S55} (h : Kd.C k55 w A n xs) (i : Int) (h0 : 0 ≤ i) (h1 : i < n) : ∃ ad A3 c3, A = some ad ∧ w.cell? (ad.add (i.toNat * 4)) = some (.int .i64 (rd_T55 xs i).f0) ∧ w.cell? ⟨(ad.add (i.toNat * 4)).block, (ad.add (i.toNat * 4)).off + 1, none⟩ = some (.int .i64 (rd_T55 xs i).f1) ∧ w.cell? ⟨(ad.add (i.toNat * 4)).block, (ad.add (i.toNat * 4)).off + 2, none⟩ = some (.int .i64 (rd_T55 xs i).f2) ∧ w.cell? ⟨(ad.add (i.toNat * 4)).block, (ad.add (i.toNat * 4)).off + 3, none⟩ = some (.slice A3 (rd_T55 xs i).f3.length c3) ∧ (rd_T55 xs i).f3.length ≤ c3 ∧ (Kd.int .i32).C w A3 (rd_T55 xs i).f3.length (rd_T55 xs i).f3 := by
 obtain ⟨ad, c, e, _, hK, hc0⟩ := Kd.C_get h z55 i h0 h1
 have hc : ∀ j u, c[j]? = some u → w.cell? (ad.add (i.toNat * 4 + j)) = some u := hc0
 obtain ⟨A3, c3, rfl, l3, g3⟩ := k55_open hK
 exact ⟨ad, A3, c3, e, hc 0 _ rfl, by rw [← add_field _ _ 1 (by omega)]; exact hc 1 _ rfl, by rw [← add_field _ _ 2 (by omega)]; exact hc 2 _ rfl, by rw [← add_field _ _ 3 (by omega)]; exact hc 3 _ rfl, l3, g3⟩

/-! #### struct type 123 -/
structure S123 where
 f0 : Int
 f1 : Int
 f2 : Int
 f3 : (List Int)
def k123 : Kd S123 := Kd.iso (Kd.pair (Kd.int .u8) (Kd.pair (Kd.int .u32) (Kd.pair (Kd.int .u32) (Kd.slice 21 (Kd.int .i32))))) (fun x : S123 => (x.f0, x.f1, x.f2, x.f3))
end Go.Proofs.YtcncclglmgdinaaDoor.PFnPgStep
