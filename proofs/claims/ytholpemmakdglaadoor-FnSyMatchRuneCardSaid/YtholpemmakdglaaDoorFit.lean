/- The thin package's check of an instruction of characters, its copy of it, and MatchRune and MatchRunePos over that copy. -/
import Derived.Test.YtholpemmakdglaaDoorCls
import Derived.StillTailTactics
namespace Go.Proofs.YtholpemmakdglaaDoor.Mem
open Go.RowKit Fold
set_option linter.unusedVariables false
section
variable (A : Option Addr) (cap : Nat) (zs : List Int) (w : World) {B : Nat}
set_option maxRecDepth 100000 in
set_option maxHeartbeats 2000000 in
theorem fit_one (PA : Option Addr) (pn pc : Nat) (hpn : 0 < pn) (r : Int) (h0 : 0 ≤ r) (h1 : r ≤ 1114111) (hz : IntsAt w B .i32 A [r]) (hB : B ≤ w.heap.size) :
    Calls Tryd.prog 31 #[.agg #[.int .i64 7, .int .i64 0, .int .i64 1, .slice A 1 cap], .agg #[.slice PA pn pc, .int .i64 0, .int .i64 0]] w fun e w' => e = .returned (.bool true) ∧ Below w.heap.size w w' := by
  have C := fun w' (h : Below w.heap.size w w') => Lib.hid (characters_any A cap [r] w' (B := B) (by simp) (hz.below h hB) (fun i hi => by simp at hi; subst hi; simp; omega))
  clear hz
  have hz : (0 : Int) < (pn : Int) := by omega
  have hbw : Below w.heap.size w ((w.alloc (.cells #[.int .i64 7, .int .i64 0, .int .i64 1, .slice A 1 cap] 31)).alloc (.cells #[.slice PA pn pc, .int .i64 0, .int .i64 0] 54)) := ((Below.refl _ _).alloc (Nat.le_refl _) _).alloc (by simp) _
  go_enter Tryd.func31, Tryd.ntmps31
  go_wp2_with (go_at_call 50; refine (Calls.mono (C _ hbw).out ?_); rintro e w1 ⟨rfl, q1, rfl⟩)
  go_ret
  exact ⟨rfl, below_drewN hbw _⟩
set_option maxRecDepth 100000 in
set_option maxHeartbeats 2000000 in
theorem fit_cls (PA : Option Addr) (pn pc : Nat) (hpn : 0 < pn) (hm : zs.length ≤ 1000000000000) (hn1 : zs.length ≠ 1) (hc : clsF (-1) zs = true) (hz : IntsAt w B .i32 A zs) (hB : B ≤ w.heap.size) :
    Calls Tryd.prog 31 #[.agg #[.int .i64 7, .int .i64 0, .int .i64 0, .slice A zs.length cap], .agg #[.slice PA pn pc, .int .i64 0, .int .i64 0]] w fun e w' => e = .returned (.bool true) ∧ Below w.heap.size w w' := by
  have C := fun w' (h : Below w.heap.size w w') => Lib.hid (pairs_any A cap zs w' (B := B) hm (hz.below h hB))
  clear hz
  have HC := Lib.hid hc; clear hc
  generalize zs.length = n at *
  have hz : (0 : Int) < (pn : Int) := by omega
  have hne : ((n : Int) != 1) = true := by simp; omega
  have hbw : Below w.heap.size w ((w.alloc (.cells #[.int .i64 7, .int .i64 0, .int .i64 0, .slice A n cap] 31)).alloc (.cells #[.slice PA pn pc, .int .i64 0, .int .i64 0] 54)) := ((Below.refl _ _).alloc (Nat.le_refl _) _).alloc (by simp) _
  go_enter Tryd.func31, Tryd.ntmps31
  go_wp2_with (go_at_call 51; refine (Calls.mono (C _ hbw).out ?_); rintro e w1 ⟨rfl, q1, rfl⟩; rw [HC.out])
  go_ret
  exact ⟨rfl, below_drewN hbw _⟩
end
end Go.Proofs.YtholpemmakdglaaDoor.Mem
