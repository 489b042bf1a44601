/- The package's reader of an escape. -/
import Derived.Test.YtholpemmakdglaaDoorEscI
import Derived.Deep.DeepCutAuto
import Derived.Deep.CutBlock
import Derived.WalkMore
namespace Go.Proofs.YtholpemmakdglaaDoor.Esc
open Go.RowKit Go.Lib Tx
set_option linter.unusedVariables false
/-- What a reader of an escape hands back. -/
def EscPost (a : Int × Nat × Int) (s : ByteArray) (w : World) (e : Ending) (w' : World) : Prop :=
  Below w.heap.size w w' ∧
  if a.2.2 = 0 then e = .returned (.tuple #[.int .i32 a.1, .string (s.extract a.2.1 s.size), .nilIface])
  else ∃ v, e = .returned (.tuple #[.int .i32 0, .string ByteArray.empty, v]) ∧ ErrV w' v a.2.2
set_option maxRecDepth 100000 in
set_option maxHeartbeats 1000000 in
theorem pe_short (s : ByteArray) (p : Value) (w : World) (h1 : s.size = 1) :
    Calls Tryd.prog 64 #[p, .string s] w (EscPost (esc s) s w) := by
  have he : esc s = (0, 0, 13) := by unfold esc; rw [if_pos (by omega)]
  rw [he]
  have hsz : (s.extract 1 s.size).size = 0 := by rw [Lib.tail_size]; omega
  have hem := toList_empty hsz
  have hz : (1 : Int) ≤ (s.size : Int) := by omega
  clear he hsz h1
  go_enter Tryd.func64, Tryd.ntmps64
  go_wp2_with fail
  go_step3
  go_wp2_with fail
  rw [Exit.noGoto_ret]
  go_ret3
  exact ⟨(Below.refl _ _).alloc (Nat.le_refl _) _, _, rfl, w.heap.size, _, rfl, by simp [msg], by simp; rfl⟩
set_option maxRecDepth 100000 in
set_option maxHeartbeats 1000000 in
theorem pe_bad (s : ByteArray) (p : Value) (w : World) (h1 : 1 < s.size) (hm : s.size ≤ 1000) (hT : U8 w) (hb : bad s 1 = true) :
    Calls Tryd.prog 64 #[p, .string s] w (EscPost (esc s) s w) := by
  have he : esc s = (0, 0, 9) := by unfold esc; rw [if_neg (by omega), if_pos hb]
  rw [he]
  have hsz : (s.extract 1 s.size).size = s.size - 1 := by rw [Lib.tail_size]
  have hem := toList_full (s := s.extract 1 s.size) (by omega)
  have CN := Lib.hid (next_c s 1 w h1 hm hT)
  have HB := Lib.hid hb
  clear he hsz hT hb
  go_enter Tryd.func64, Tryd.ntmps64
  go_wp2_with fail
  go_step3
  go_wp2_with (go_at_call 77; refine CN.out.mono ?_; rintro e w1 ⟨hb1, hr⟩; rw [if_pos HB.out] at hr; obtain ⟨v, rfl, g, ex, rfl, c0, c1⟩ := hr)
  rw [Exit.noGoto_ret]
  go_ret3
  exact ⟨hb1, _, rfl, g, ex, rfl, c0, c1⟩
set_option maxRecDepth 100000 in
set_option maxHeartbeats 1000000 in
theorem pe_let (s : ByteArray) (p : Value) (w : World) (h1 : 1 < s.size) (hm : s.size ≤ 1000) (hT : U8 w) (hb : bad s 1 = false) (c : Nat) (r : Int) (hc : (Utf8.decode s 1).1 = c) (hcr : (c, r) ∈ [(97, (7 : Int)), (102, 12), (110, 10), (114, 13), (116, 9), (118, 11)]) :
    Calls Tryd.prog 64 #[p, .string s] w (EscPost (esc s) s w) := by
  have he : esc s = (r, 1 + (Utf8.decode s 1).2, 0) := by
    unfold esc; rw [if_neg (by omega), if_neg (by simp [hb]), hc]
    simp at hcr
    rcases hcr with ⟨rfl, rfl⟩ | ⟨rfl, rfl⟩ | ⟨rfl, rfl⟩ | ⟨rfl, rfl⟩ | ⟨rfl, rfl⟩ | ⟨rfl, rfl⟩ <;> rfl
  rw [he]
  have hsz : (s.extract 1 s.size).size = s.size - 1 := by rw [Lib.tail_size]
  have hem := toList_full (s := s.extract 1 s.size) (by omega)
  have CN := Lib.hid (next_c s 1 w h1 hm hT)
  have HB := Lib.hid hb
  have HC := Lib.hid hc
  clear he hsz hT hb hc
  simp at hcr
  rcases hcr with ⟨rfl, rfl⟩ | ⟨rfl, rfl⟩ | ⟨rfl, rfl⟩ | ⟨rfl, rfl⟩ | ⟨rfl, rfl⟩ | ⟨rfl, rfl⟩
  all_goals
    go_enter Tryd.func64, Tryd.ntmps64
    go_wp2_with fail
    go_step3
    go_wp2_with (go_at_call 77; refine CN.out.mono ?_; rintro e w1 ⟨hb1, hr⟩; rw [if_neg (by rw [HB.out]; exact Bool.false_ne_true), HC.out] at hr; subst hr)
    go_step3
    go_wp2
    rw [Exit.noGoto_ret]
    go_ret3
    exact ⟨hb1, rfl⟩
end Go.Proofs.YtholpemmakdglaaDoor.Esc
