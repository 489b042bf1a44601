/- The package's reader of an escape: octal digits. -/
import Derived.Test.YtholpemmakdglaaDoorEscP3
namespace Go.Proofs.YtholpemmakdglaaDoor.Esc
open Go.RowKit Go.Lib Tx
set_option linter.unusedVariables false
set_option maxRecDepth 100000 in
set_option maxHeartbeats 8000000 in
theorem pe_oct (s : ByteArray) (p : Value) (w : World) (h1 : 1 < s.size) (hm : s.size ≤ 1000) (hT : U8 w) (hb : bad s 1 = false) (c : Nat) (hc : (Utf8.decode s 1).1 = c) (hcc : 48 ≤ c ∧ c ≤ 55) (ho : c = 48 ∨ octal s (1 + (Utf8.decode s 1).2) = true) :
    Calls Tryd.prog 64 #[p, .string s] w (EscPost (esc s) s w) := by
  have he : esc s = oct s 2 (1 + (Utf8.decode s 1).2) (c - 48) := by
    unfold esc escC
    rw [if_neg (by omega), if_neg (by rw [hb]; simp), hc]
    rw [if_pos]
    rcases ho with h | h
    · exact Or.inl h
    · by_cases h48 : c = 48
      · exact Or.inl h48
      · exact Or.inr ⟨by omega, hcc.2, h⟩
  rw [he]
  have hsz : (s.extract 1 s.size).size = s.size - 1 := by rw [Lib.tail_size]
  have hem := toList_full (s := s.extract 1 s.size) (by omega)
  have CN := Lib.hid (next_c s 1 w h1 hm hT)
  have hfit := decode_fits s 1 h1
  have hmax := decode_max s 1
  have hts := Lib.tail_size s (1 + (Utf8.decode s 1).2)
  have HB := Lib.hid hb
  have hb0 := hb
  clear hsz hb
  have HC := Lib.hid hc
  clear he hT hb0 hc hmax hts
  have CN2 : Hid (∀ e w', NrPost s 1 w e w' → Below w.heap.size w w' ∧ e = .returned (.tuple #[.int .i32 c, .string (s.extract (1 + (Utf8.decode s 1).2) s.size), .nilIface])) := Lib.hid fun e w' h => by
    obtain ⟨hb1, hr⟩ := h
    rw [if_neg (by rw [HB.out]; exact Bool.false_ne_true), HC.out] at hr
    exact ⟨hb1, hr⟩
  clear HC HB
  generalize 1 + (Utf8.decode s 1).2 = k0 at *
  obtain ⟨A, hA⟩ : ∃ A, oct s 2 k0 ((c : Int) - 48) = A := ⟨_, rfl⟩
  rw [hA]
  have HA := Lib.hid hA; clear hA
  have HP : Hid (∀ e w', (Below w.heap.size w w' ∧ if A.2.2 = 0 then e = .returned (.tuple #[.int .i32 A.1, .string (s.extract A.2.1 s.size), .nilIface]) else ∃ v, e = .returned (.tuple #[.int .i32 0, .string ByteArray.empty, v]) ∧ ErrV w' v A.2.2) → EscPost A s w e w') := Lib.hid fun e w' h => h
  have hcs : c = 48 ∨ c = 49 ∨ c = 50 ∨ c = 51 ∨ c = 52 ∨ c = 53 ∨ c = 54 ∨ c = 55 := by omega
  have hof : c = 48 ∨ ((s.extract k0 s.size).toList.isEmpty = false ∧ ∃ h0 : 0 < (s.extract k0 s.size).size, 48 ≤ (s.extract k0 s.size)[0].toNat ∧ (s.extract k0 s.size)[0].toNat ≤ 55) := by
    rcases ho with h | h
    · exact Or.inl h
    · obtain ⟨h1, h0, h2, h3, h4⟩ := oct_yes rfl h
      exact Or.inr ⟨h1, h0, h2, h3⟩
  clear hcc ho
  have hee0 := Lib.hid (rfl : s.extract k0 s.size = s.extract k0 s.size)
  generalize ht0 : s.extract k0 s.size = t0 at CN2 hof
  have HT0 := Lib.hid ht0
  clear ht0 hee0
  rcases hcs with rfl | rfl | rfl | rfl | rfl | rfl | rfl | rfl
  all_goals
    first
      | (rcases hof with h | ⟨o1, o0, o2, o3⟩
         · cases h)
      | clear hof
  all_goals
    go_enter Tryd.func64, Tryd.ntmps64
    go_wp2_with fail
    go_step3
    go_wp2_with (go_at_call 77; refine CN.out.mono ?_; rintro e w1 hr; obtain ⟨hb1, rfl⟩ := CN2.out _ _ hr)
    have HB1 := Lib.hid hb1
    clear hb1 hr
    go_step3
    go_wp2_with fail
    go_loopg [4, 7, 9] 4 (fun g s4 s7 s9 wx => ∃ (j k : Nat) (r : Int), s4 = .int .i32 r ∧ s7 = .string (s.extract k s.size) ∧ s9 = .int .i64 j ∧ 1 ≤ j ∧ j ≤ 3 ∧ 0 ≤ r ∧ r ≤ 511 ∧ ((j ≤ 2 → r ≤ 63) ∧ (j ≤ 1 → r ≤ 7)) ∧ 3 - j < g ∧ wx = w1 ∧ oct s (3 - j) k r = A)
    case atStart => exact ⟨1, k0, _, rfl, by rw [HT0.out], rfl, by omega, by omega, by omega, by omega, ⟨by omega, by omega⟩, by omega, rfl, HA.out⟩
    case round =>
      obtain ⟨j, k, r, rfl, rfl, rfl, hj1, hj2, hr1, hr2, hr3, hg, rfl, hn⟩ := hrel
      have HR3 := Lib.hid hr3
      clear hr3
      obtain ⟨g', rfl⟩ : ∃ g', gk = g' + 1 := ⟨gk - 1, by omega⟩
      have hee := Lib.hid (ext_ext s k 1)
      by_cases hj : j ≤ 2
      · have hr63 := HR3.out.1 hj
        have hr7 := HR3.out.2
        have hjj : 3 - j = (2 - j) + 1 := by omega
        rw [hjj] at hn
        simp only [oct] at hn
        clear hjj
        cases ho : octal s k
        · have HN := Lib.hid (show (r, k, (0 : Int)) = A by rw [ho] at hn; rw [if_neg Bool.false_ne_true] at hn; exact hn)
          have hon := oct_no rfl ho
          clear hn ho hr7
          generalize hte : s.extract k s.size = t at *
          have HTE := Lib.hid hte
          clear hte
          rcases hon with h1 | ⟨h1, h0, h2⟩ | ⟨h1, h0, h2, h3⟩
          all_goals
            go_wp2
            try rw [Exit.noGoto_ret]
            go_ret3
            refine HP.out _ _ ⟨HB1.out, ?_⟩
            rw [if_pos (by rw [← HN.out]), ← HN.out, HTE.out]
            rfl
        · have HN := Lib.hid (show oct s (2 - j) (k + 1) (8 * r + ((s.get! k).toNat - 48)) = A by rw [ho] at hn; rw [if_pos rfl] at hn; exact hn)
          obtain ⟨h1, h0, h2, h3, h4⟩ := oct_yes rfl ho
          rw [← h4] at HN
          have HR7 := Lib.hid hr7
          clear hn ho h4 hr7
          generalize s.extract k s.size = t at *
          go_wp2
          go_roundg g'
          case rel => exact ⟨j + 1, k + 1, _, rfl, by rw [← hee.out], by go_num, by omega, by omega, by omega, by omega, ⟨fun h => by have := HR7.out (by omega); omega, by omega⟩, by omega, rfl, by rw [show 3 - (j + 1) = 2 - j by omega]; have := HN.out; rw [← this]; congr 1; omega⟩
          case measure => omega
      · obtain rfl : j = 3 := by omega
        have HN := Lib.hid (show (r, k, (0 : Int)) = A from hn)
        clear hn
        go_wp2
        try rw [Exit.noGoto_ret]
        go_ret3
        refine HP.out _ _ ⟨HB1.out, ?_⟩
        rw [if_pos (by rw [← HN.out]), ← HN.out]
        rfl
end Go.Proofs.YtholpemmakdglaaDoor.Esc
