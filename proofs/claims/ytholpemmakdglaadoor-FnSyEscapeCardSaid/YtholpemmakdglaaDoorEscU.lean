/- The reference's digits, letters and hexadecimal numbers. -/
import Derived.Test.YtholpemmakdglaaDoorEscT
namespace Go.Proofs.YtholpemmakdglaaDoor.Esc
open Go.RowKit Go.Lib Tx
set_option linter.unusedVariables false
def lowOk (c : Nat) : Bool :=
  (bits .or .u8 (c : Int) 32 == (((c ||| 32 : Nat)) : Int)) && decide ((c ||| 32) < 256) &&
  ((decide (97 ≤ (c ||| 32)) && decide ((c ||| 32) ≤ 102)) == (decide (0 ≤ hexv c) && !(decide (48 ≤ c) && decide (c ≤ 57)))) &&
  (!(decide (97 ≤ (c ||| 32)) && decide ((c ||| 32) ≤ 102)) || decide (hexv c = ((c ||| 32 : Nat) : Int) - 87)) &&
  ((decide (97 ≤ (c ||| 32)) && decide ((c ||| 32) ≤ 122)) == (alnum c && !(decide (48 ≤ c) && decide (c ≤ 57))))
theorem low_all : ((List.range 128).all lowOk) = true := by decide +kernel
theorem low_get (c : Nat) (h : c < 128) : ∃ L : Nat, bits .or .u8 (c : Int) 32 = (L : Int) ∧ L < 256 ∧ ((97 ≤ L ∧ L ≤ 102) ↔ (0 ≤ hexv c ∧ ¬ (48 ≤ c ∧ c ≤ 57))) ∧ (97 ≤ L → L ≤ 102 → hexv c = (L : Int) - 87) ∧ ((97 ≤ L ∧ L ≤ 122) ↔ (alnum c = true ∧ ¬ (48 ≤ c ∧ c ≤ 57))) := by
  have := List.all_eq_true.1 low_all c (List.mem_range.2 h)
  simp only [lowOk, Bool.and_eq_true, beq_iff_eq, decide_eq_true_eq] at this
  obtain ⟨⟨⟨⟨h1, h2⟩, h3⟩, h4⟩, h5⟩ := this
  refine ⟨c ||| 32, h1, h2, ?_, ?_, ?_⟩
  · rw [Bool.eq_iff_iff] at h3; simp at h3; omega
  · intro a b; simp [a, b] at h4; exact h4
  · rw [Bool.eq_iff_iff] at h5; simp at h5; cases ha : alnum c <;> simp [ha] at h5 ⊢ <;> omega
set_option maxRecDepth 100000 in
set_option maxHeartbeats 1000000 in
theorem sydigit_c (c : Nat) (w : World) (hc : c < 128) :
    Calls Tryd.prog 84 #[.int .u8 c] w fun e w' => e = .returned (.int .i64 (hexv c)) ∧ w = w' := by
  obtain ⟨L, hL, hL2, h3, h4, h5⟩ := low_get c hc
  have hdig : 48 ≤ c ∧ c ≤ 57 → hexv c = c - 48 := fun h => by unfold hexv; rw [if_pos h]
  have hneg : hexv c < 0 → hexv c = -1 := fun h => by have := hexv_lt c; omega
  have H3 := Lib.hid h3; have H4 := Lib.hid h4; have HD := Lib.hid hdig; have HN := Lib.hid hneg
  clear h3 h4 h5 hdig hneg
  go_enter Tryd.func84, Tryd.ntmps84
  go_wp2
  all_goals go_ret
  all_goals exact ⟨ret_int (by have a3 := H3.out; have a4 := H4.out; have ad := HD.out; have an := HN.out; omega), rfl⟩
set_option maxRecDepth 100000 in
set_option maxHeartbeats 1000000 in
theorem syalnum_c (c : Nat) (w : World) (hc : c < 128) :
    Calls Tryd.prog 63 #[.int .u8 c] w fun e w' => e = .returned (.bool (alnum c)) ∧ w = w' := by
  obtain ⟨L, hL, hL2, h3, h4, h5⟩ := low_get c hc
  have hdig : 48 ≤ c ∧ c ≤ 57 → alnum c = true := fun h => by simp [alnum, h]
  have H5 := Lib.hid h5; have HD := Lib.hid hdig
  clear h3 h4 h5 hdig
  go_enter Tryd.func63, Tryd.ntmps63
  go_wp2
  all_goals go_ret
  all_goals
    refine ⟨ret_bool ?_, rfl⟩
    have a5 := H5.out
    have ad := HD.out
    cases ha : alnum c <;> simp [ha] at a5 ad ⊢ <;> omega
set_option maxRecDepth 100000 in
set_option maxHeartbeats 1000000 in
/-- The value of the character at the reader's place as a hexadecimal digit; -1 at the end. -/
theorem digit_c (s : ByteArray) (b k : Nat) (w : World) (h : Rd w b s k 0) (hk : k ≤ s.size) (hm : s.size ≤ 1000) :
    Calls Tryd.prog 75 #[.pointer (some ⟨b, 0, none⟩)] w fun e w' =>
      if s.size ≤ k then e = .returned (.int .i32 (-1)) ∧ Left w b s k 0 w'
      else e = .returned (.int .i32 (hexv (Utf8.decode s k).1)) ∧ Left w b s (k + (Utf8.decode s k).2) (if bad s k = true then 9 else 0) w' := by
  have CO := Lib.hid (over_c s b k 0 w h hm (by omega))
  have HR := Lib.hid h
  clear h
  by_cases hle : s.size ≤ k
  · have ht : (decide (s.size ≤ k) || (0 : Int) != 0) = true := by simp [hle]
    rw [ht] at CO
    simp only [if_pos hle]
    clear ht hle
    go_enter Tryd.func75, Tryd.ntmps75
    go_wp2_with (go_at_call 76; refine CO.out.mono ?_; rintro e w1 ⟨rfl, n, rfl⟩)
    go_ret
    exact ⟨rfl, HR.out.drewN n, gb_drewN _ _ _⟩
  · have ht : (decide (s.size ≤ k) || (0 : Int) != 0) = false := by simp; omega
    rw [ht] at CO
    simp only [if_neg hle]
    have CC : Hid (∀ n, Calls Tryd.prog 61 #[.pointer (some ⟨b, 0, none⟩)] (w.drewN n) fun e w' => e = .returned (.int .i32 ((Utf8.decode s k).1 : Nat)) ∧ Left (w.drewN n) b s (k + (Utf8.decode s k).2) (if bad s k = true then 9 else 0) w') := Lib.hid fun n => by
      have := char_c s b k 0 (w.drewN n) (HR.out.drewN n) (by omega) hm
      simpa using this
    have hmax := decode_max s k
    generalize (if bad s k = true then (9 : Int) else 0) = er at *
    clear ht hle
    by_cases hc : (Utf8.decode s k).1 < 128
    · have CD : Hid (∀ w1, Calls Tryd.prog 84 #[.int .u8 (((Utf8.decode s k).1 : Int) % 256)] w1 fun e w' => e = .returned (.int .i64 (hexv (Utf8.decode s k).1)) ∧ w1 = w') := Lib.hid fun w1 => by
        rw [show (((Utf8.decode s k).1 : Int) % 256) = ((Utf8.decode s k).1 : Int) by omega]
        exact sydigit_c (Utf8.decode s k).1 w1 hc
      have hhl := hexv_lt (Utf8.decode s k).1
      generalize hexv (Utf8.decode s k).1 = hv at *
      generalize (Utf8.decode s k).1 = c at *
      have hcd : decide ((c : Int) < 128) = true := by simp; omega
      clear hc
      go_enter Tryd.func75, Tryd.ntmps75
      go_wp2_with (first
        | (go_at_call 76; refine CO.out.mono ?_; rintro e w1 ⟨rfl, n, rfl⟩)
        | (go_at_call 61; refine (CC.out _).mono ?_; rintro e w2 ⟨rfl, hl⟩; have HL := Lib.hid hl; clear hl)
        | (go_at_call 84; refine (CD.out _).mono ?_; rintro e w3 ⟨rfl, rfl⟩))
      go_ret
      exact ⟨rfl, HL.out.1, gb_trans (gb_drewN _ _ _) HL.out.2⟩
    · have hh : hexv (Utf8.decode s k).1 = -1 := by unfold hexv; rw [if_neg (by omega), if_neg (by omega), if_neg (by omega)]
      rw [hh]
      generalize (Utf8.decode s k).1 = c at *
      have hcd : decide ((c : Int) < 128) = false := by simp; omega
      clear hc hh
      go_enter Tryd.func75, Tryd.ntmps75
      go_wp2_with (first
        | (go_at_call 76; refine CO.out.mono ?_; rintro e w1 ⟨rfl, n, rfl⟩)
        | (go_at_call 61; refine (CC.out _).mono ?_; rintro e w2 ⟨rfl, hl⟩; have HL := Lib.hid hl; clear hl))
      go_ret
      exact ⟨rfl, HL.out.1, gb_trans (gb_drewN _ _ _) HL.out.2⟩
end Go.Proofs.YtholpemmakdglaaDoor.Esc
