/- The package's reader of an escape, whole; the kind of its error; the thin package's call. -/
import Derived.Test.YtholpemmakdglaaDoorEscP2
import Derived.Test.YtholpemmakdglaaDoorEscP4
import Derived.Test.YtholpemmakdglaaDoorEscP6
namespace Go.Proofs.YtholpemmakdglaaDoor.Esc
open Go.RowKit Go.Lib Tx
set_option linter.unusedVariables false
theorem pe_any (s : ByteArray) (p : Value) (w : World) (h0 : 1 ≤ s.size) (hm : s.size ≤ 1000) (hT : U8 w) :
    Calls Tryd.prog 64 #[p, .string s] w (EscPost (esc s) s w) := by
  by_cases h1 : s.size = 1
  · exact pe_short s p w h1
  have h1 : 1 < s.size := by omega
  cases hb : bad s 1
  · obtain ⟨c, hc⟩ : ∃ c, (Utf8.decode s 1).1 = c := ⟨_, rfl⟩
    by_cases hx : c = 120
    · subst hx
      by_cases hk : 1 + (Utf8.decode s 1).2 < s.size
      · cases hb2 : bad s (1 + (Utf8.decode s 1).2)
        · by_cases h123 : (Utf8.decode s (1 + (Utf8.decode s 1).2)).1 = 123
          · exact pe_xb s p w h1 hm hT hb hc hk hb2 h123
          · by_cases hk2 : 1 + (Utf8.decode s 1).2 + (Utf8.decode s (1 + (Utf8.decode s 1).2)).2 < s.size
            · cases hb3 : bad s (1 + (Utf8.decode s 1).2 + (Utf8.decode s (1 + (Utf8.decode s 1).2)).2)
              · exact pe_x2 s p w h1 hm hT hb hc hk hb2 h123 hk2 hb3
              · exact pe_x1b s p w h1 hm hT hb hc hk hb2 h123 hk2 hb3
            · exact pe_x1e s p w h1 hm hT hb hc hk hb2 h123 (by omega)
        · exact pe_xbad s p w h1 hm hT hb hc hk hb2
      · exact pe_x0 s p w h1 hm hT hb hc (by omega)
    · by_cases h8 : 48 ≤ c ∧ c ≤ 55
      · by_cases ho : c = 48 ∨ octal s (1 + (Utf8.decode s 1).2) = true
        · exact pe_oct s p w h1 hm hT hb c hc h8 ho
        · exact pe_octno s p w h1 hm hT hb c hc (by omega) (by
            cases e : octal s (1 + (Utf8.decode s 1).2) with
            | false => rfl
            | true => exact absurd (Or.inr e) ho)
      · by_cases hl : ∃ r, (c, r) ∈ [(97, (7 : Int)), (102, 12), (110, 10), (114, 13), (116, 9), (118, 11)]
        · obtain ⟨r, hr⟩ := hl
          exact pe_let s p w h1 hm hT hb c r hc hr
        · refine pe_def s p w h1 hm hT hb c hc fun x hx e => ?_
          subst e
          simp only [List.mem_cons, List.not_mem_nil, or_false] at hx
          simp only [List.mem_cons, List.not_mem_nil, or_false, Prod.mk.injEq, not_exists] at hl
          rcases hx with h | h | h | h | h | h | h | h | h | h | h | h | h | h | h
          all_goals first
            | omega
            | (subst h; first | (refine hl 7 ?_; decide) | (refine hl 12 ?_; decide) | (refine hl 10 ?_; decide) | (refine hl 13 ?_; decide) | (refine hl 9 ?_; decide) | (refine hl 11 ?_; decide))
  · exact pe_bad s p w h1 hm hT hb
set_option maxRecDepth 100000 in
set_option maxHeartbeats 1000000 in
theorem zz_esc (s : ByteArray) (w : World) (h0 : 1 ≤ s.size) (hm : s.size ≤ 1000) (hT : U8 w) :
    Calls Tryd.prog 42 #[.string s] w (EscPost (esc s) s w) := by
  have C : Hid (∀ w1 p, Below w.heap.size w w1 → Calls Tryd.prog 64 #[p, .string s] w1 (EscPost (esc s) s w1)) := Lib.hid fun w1 p h => pe_any s p w1 h0 hm (Utf8Tabs_below hT h)
  clear hT
  generalize esc s = A at *
  by_cases hA : A.2.2 = 0
  · have HP : Hid (∀ e w', (Below w.heap.size w w' ∧ e = .returned (.tuple #[.int .i32 A.1, .string (s.extract A.2.1 s.size), .nilIface])) → EscPost A s w e w') := Lib.hid fun e w' h => ⟨h.1, by rw [if_pos hA]; exact h.2⟩
    have HA := Lib.hid hA
    clear hA
    go_enter Tryd.func42, Tryd.ntmps42
    go_wp2_with fail
    refine (C.out _ _ ((Below.refl _ _).alloc (Nat.le_refl _) _)).mono ?_
    rintro e w2 ⟨hb, hr⟩
    rw [if_pos HA.out] at hr
    subst hr
    go_wp2
    go_ret3
    exact HP.out _ _ ⟨((Below.refl _ _).alloc (Nat.le_refl _) _).trans (hb.mono (by simp)), rfl⟩
  · have HP : Hid (∀ e w', (Below w.heap.size w w' ∧ ∃ v, e = .returned (.tuple #[.int .i32 0, .string ByteArray.empty, v]) ∧ ErrV w' v A.2.2) → EscPost A s w e w') := Lib.hid fun e w' h => ⟨h.1, by rw [if_neg hA]; exact h.2⟩
    have HA := Lib.hid hA
    clear hA
    go_enter Tryd.func42, Tryd.ntmps42
    go_wp2_with fail
    refine (C.out _ _ ((Below.refl _ _).alloc (Nat.le_refl _) _)).mono ?_
    rintro e w2 ⟨hb, hr⟩
    rw [if_neg HA.out] at hr
    obtain ⟨v, rfl, hv⟩ := hr
    go_wp2
    go_ret3
    exact HP.out _ _ ⟨((Below.refl _ _).alloc (Nat.le_refl _) _).trans (hb.mono (by simp)), v, rfl, hv⟩
set_option maxRecDepth 100000 in
set_option maxHeartbeats 4000000 in
theorem kind_c (v : Value) (k : Int) (w : World) (hk : k = 13 ∨ k = 9 ∨ k = 4) (hv : ErrV w v k) :
    Calls Tryd.prog 43 #[v] w fun e w' => ∃ ex : ByteArray, e = .returned (.tuple #[.int .i64 k, .string ex]) ∧ Below w.heap.size w w' := by
  obtain ⟨g, ex, rfl, c0, c1⟩ := hv
  have hta : Sem.run Tryd.prog (Instr.typeAssert (Value.iface 93 (Value.pointer (some ⟨g, 0, none⟩))) 71 93 true) w = .ok (.tuple #[.pointer (some ⟨g, 0, none⟩), .bool true]) w := by kernel_rfl
  rcases hk with rfl | rfl | rfl
  all_goals
    simp [msg] at c0
    go_enter Tryd.func43, Tryd.ntmps43
    go_wp2_with fail
    go_quiet (fail)
    go_wp2
    go_ret2
    exact ⟨ex, rfl, below_dn (Below.refl _ _) _⟩
end Go.Proofs.YtholpemmakdglaaDoor.Esc
