/- The thin package's call of the reader of an escape. -/
import Derived.Test.YtholpemmakdglaaDoorEscQ
namespace Go.Proofs.YtholpemmakdglaaDoor.Esc
open Go.RowKit Go.Lib Tx
set_option linter.unusedVariables false
def okK (k : Int) : Prop := k = 0 ∨ k = 13 ∨ k = 9 ∨ k = 4
theorem hexB_k (s : ByteArray) : ∀ g k r sm, okK (hexB s g k r sm).2.2
  | 0, k, r, sm => by simp [hexB, okK]
  | g + 1, k, r, sm => by
    rw [hexB_succ]
    repeat' split
    all_goals first
      | exact hexB_k s g _ _ _
      | simp [okK]
theorem oct_k (s : ByteArray) : ∀ m k r, okK (oct s m k r).2.2
  | 0, k, r => by simp [oct, okK]
  | m + 1, k, r => by
    simp only [oct]
    split
    · exact oct_k s m _ _
    · simp [okK]
theorem hexE_k (s : ByteArray) (k : Nat) : okK (hexE s k).2.2 := by
  unfold hexE
  repeat' split
  all_goals first
    | exact hexB_k s _ _ _ _
    | simp [okK]
theorem esc_k (s : ByteArray) : okK (esc s).2.2 := by
  unfold esc escC
  repeat' split
  all_goals first
    | exact oct_k s _ _ _
    | exact hexE_k s _
    | simp [okK]
def SyPost (a : Int × Nat × Int) (s : ByteArray) (w : World) (e : Ending) (w' : World) : Prop :=
  Below w.heap.size w w' ∧
  if a.2.2 = 0 then e = .returned (.tuple #[.int .i32 a.1, .string (s.extract a.2.1 s.size), .int .i64 0, .string ByteArray.empty])
  else ∃ ex, e = .returned (.tuple #[.int .i32 0, .string ByteArray.empty, .int .i64 a.2.2, .string ex])
set_option maxRecDepth 100000 in
set_option maxHeartbeats 1000000 in
theorem sy_esc (s : ByteArray) (w : World) (h0 : 1 ≤ s.size) (h92 : s[0].toNat = 92) (hm : s.size ≤ 1000) (hT : U8 w) :
    Calls Tryd.prog 22 #[.string s] w (SyPost (esc s) s w) := by
  have C := Lib.hid (zz_esc s w h0 hm hT)
  have hk := esc_k s
  have hz : ((s.size : Int) == 0) = false := by rw [beq_eq_false_iff_ne]; omega
  have h0z : (0 : Int) < (s.size : Int) := by omega
  have hb : ((s[0].toNat : Int) != 92) = false := by rw [h92]; rfl
  clear hT h92
  generalize esc s = A at *
  by_cases hA : A.2.2 = 0
  · have HP : Hid (∀ e w', (Below w.heap.size w w' ∧ e = .returned (.tuple #[.int .i32 A.1, .string (s.extract A.2.1 s.size), .int .i64 0, .string ByteArray.empty])) → SyPost A s w e w') := Lib.hid fun e w' h => ⟨h.1, by rw [if_pos hA]; exact h.2⟩
    have HA := Lib.hid hA
    clear hA hk
    go_enter Tryd.func22, Tryd.ntmps22
    go_wp2_with fail
    refine C.out.mono ?_
    rintro e w2 ⟨hb, hr⟩
    rw [if_pos HA.out] at hr
    subst hr
    go_wp2
    refine bodyPost_ret (v := .tuple #[.int .i32 A.1, .string (s.extract A.2.1 s.size), .int .i64 0, .string ByteArray.empty]) (by simp [results, Tryd.results22, go_sem]; try rfl) rfl (HP.out _ _ ⟨hb, rfl⟩)
  · have HP : Hid (∀ e w', (Below w.heap.size w w' ∧ ∃ ex, e = .returned (.tuple #[.int .i32 0, .string ByteArray.empty, .int .i64 A.2.2, .string ex])) → SyPost A s w e w') := Lib.hid fun e w' h => ⟨h.1, by rw [if_neg hA]; exact h.2⟩
    have HA := Lib.hid hA
    have HK : Hid (A.2.2 = 13 ∨ A.2.2 = 9 ∨ A.2.2 = 4) := Lib.hid (by rcases hk with h | h | h | h; exact absurd h hA; exact Or.inl h; exact Or.inr (Or.inl h); exact Or.inr (Or.inr h))
    clear hA hk
    go_enter Tryd.func22, Tryd.ntmps22
    go_wp2_with fail
    refine C.out.mono ?_
    rintro e w2 ⟨hb2, hr⟩
    rw [if_neg HA.out] at hr
    obtain ⟨v, rfl, hv⟩ := hr
    have CK := Lib.hid (kind_c v _ w2 HK.out hv)
    obtain ⟨g, ex0, rfl, c0, c1⟩ := hv
    have HB2 := Lib.hid hb2
    clear hb2 c0 c1
    go_wp2_with fail
    refine CK.out.mono ?_
    rintro e w3 ⟨ex, rfl, hb3⟩
    go_wp2
    refine bodyPost_ret (v := .tuple #[.int .i32 0, .string ByteArray.empty, .int .i64 A.2.2, .string ex]) (by simp [results, Tryd.results22, go_sem]; try rfl) rfl (HP.out _ _ ⟨HB2.out.trans (hb3.mono HB2.out.size), ex, rfl⟩)
end Go.Proofs.YtholpemmakdglaaDoor.Esc
