/- The package's reader of an escape: the other characters. -/
import Derived.Test.YtholpemmakdglaaDoorEscP
import Derived.StillTailTactics
import Derived.Deep.RegionHeld3
namespace Go.Proofs.YtholpemmakdglaaDoor.Esc
open Go.RowKit Go.Lib Tx
set_option linter.unusedVariables false
set_option maxRecDepth 100000 in
set_option maxHeartbeats 1000000 in
theorem pe_def (s : ByteArray) (p : Value) (w : World) (h1 : 1 < s.size) (hm : s.size ≤ 1000) (hT : U8 w) (hb : bad s 1 = false) (c : Nat) (hc : (Utf8.decode s 1).1 = c) (hne : ∀ x ∈ [49, 50, 51, 52, 53, 54, 55, 48, 120, 97, 102, 110, 114, 116, 118], c ≠ x) :
    Calls Tryd.prog 64 #[p, .string s] w (EscPost (esc s) s w) := by
  have he : esc s = if c < 128 ∧ alnum c = false then ((c : Int), 1 + (Utf8.decode s 1).2, (0 : Int)) else (0, 0, 4) := by
    unfold esc escC
    rw [if_neg (by omega), if_neg (by rw [hb]; simp), hc]
    simp only [List.mem_cons, List.not_mem_nil, or_false, forall_eq_or_imp, forall_eq] at hne
    rw [if_neg (by omega), if_neg (by omega), if_neg (by omega), if_neg (by omega), if_neg (by omega), if_neg (by omega), if_neg (by omega), if_neg (by omega)]
  rw [he]
  have hsz : (s.extract 1 s.size).size = s.size - 1 := by rw [Lib.tail_size]
  have hem := toList_full (s := s.extract 1 s.size) (by omega)
  have CN := Lib.hid (next_c s 1 w h1 hm hT)
  have hfit := decode_fits s 1 h1
  have hmax := decode_max s 1
  have hts := Lib.tail_size s (1 + (Utf8.decode s 1).2)
  have HB := Lib.hid hb
  have hb0 := hb
  clear hsz hb
  have HC := Lib.hid hc
  rw [hc] at hmax
  clear he hT hb0 hc hmax
  have f49 : ((c : Int) == 49) = false := by rw [beq_eq_false_iff_ne]; intro h; exact hne 49 (by simp) (by omega)
  have f50 : ((c : Int) == 50) = false := by rw [beq_eq_false_iff_ne]; intro h; exact hne 50 (by simp) (by omega)
  have f51 : ((c : Int) == 51) = false := by rw [beq_eq_false_iff_ne]; intro h; exact hne 51 (by simp) (by omega)
  have f52 : ((c : Int) == 52) = false := by rw [beq_eq_false_iff_ne]; intro h; exact hne 52 (by simp) (by omega)
  have f53 : ((c : Int) == 53) = false := by rw [beq_eq_false_iff_ne]; intro h; exact hne 53 (by simp) (by omega)
  have f54 : ((c : Int) == 54) = false := by rw [beq_eq_false_iff_ne]; intro h; exact hne 54 (by simp) (by omega)
  have f55 : ((c : Int) == 55) = false := by rw [beq_eq_false_iff_ne]; intro h; exact hne 55 (by simp) (by omega)
  have f48 : ((c : Int) == 48) = false := by rw [beq_eq_false_iff_ne]; intro h; exact hne 48 (by simp) (by omega)
  have f120 : ((c : Int) == 120) = false := by rw [beq_eq_false_iff_ne]; intro h; exact hne 120 (by simp) (by omega)
  have f97 : ((c : Int) == 97) = false := by rw [beq_eq_false_iff_ne]; intro h; exact hne 97 (by simp) (by omega)
  have f102 : ((c : Int) == 102) = false := by rw [beq_eq_false_iff_ne]; intro h; exact hne 102 (by simp) (by omega)
  have f110 : ((c : Int) == 110) = false := by rw [beq_eq_false_iff_ne]; intro h; exact hne 110 (by simp) (by omega)
  have f114 : ((c : Int) == 114) = false := by rw [beq_eq_false_iff_ne]; intro h; exact hne 114 (by simp) (by omega)
  have f116 : ((c : Int) == 116) = false := by rw [beq_eq_false_iff_ne]; intro h; exact hne 116 (by simp) (by omega)
  have f118 : ((c : Int) == 118) = false := by rw [beq_eq_false_iff_ne]; intro h; exact hne 118 (by simp) (by omega)
  clear hne
  have HTS := Lib.hid hts
  have htl : (s.extract (1 + (Utf8.decode s 1).2) s.size).size ≤ s.size := by omega
  clear hts
  by_cases hl : c < 128
  · have HA := Lib.hid (fun w => isalnum_c c w hl)
    have hl1 : decide ((c : Int) < 128) = true := by simp; omega
    cases ha : alnum c
    · rw [ha] at HA
      rw [if_pos ⟨hl, rfl⟩]
      clear ha hl
      go_enter Tryd.func64, Tryd.ntmps64
      go_wp2_with fail
      go_step3
      go_wp2_with (first
        | (go_at_call 77; refine CN.out.mono ?_; rintro e w1 ⟨hb1, hr⟩; rw [if_neg (by rw [HB.out]; exact Bool.false_ne_true), HC.out] at hr; subst hr)
        | (go_at_call 78; refine (HA.out _).mono ?_; rintro e w2 ⟨rfl, rfl⟩))
      go_step3
      go_wp2_with (go_at_call 78; refine (HA.out _).mono ?_; rintro e w2 ⟨rfl, rfl⟩)
      rw [Exit.noGoto_ret]
      go_ret3
      exact ⟨hb1, rfl⟩
    · rw [ha] at HA
      rw [if_neg (by simp)]
      clear ha hl
      go_enter Tryd.func64, Tryd.ntmps64
      go_wp2_with fail
      go_step3
      go_wp2_with (go_at_call 77; refine CN.out.mono ?_; rintro e w1 ⟨hb1, hr⟩; rw [if_neg (by rw [HB.out]; exact Bool.false_ne_true), HC.out] at hr; subst hr)
      go_step3
      go_upto_region 66 with (go_at_call 78; refine (HA.out _).mono ?_; rintro e w2 ⟨rfl, rfl⟩)
      generalize s.extract (1 + (Utf8.decode s 1).2) s.size = t at *
      have hw1 : IntKind.i64.wrap ((s.size : Int) - (t.size : Int)) = (s.size : Int) - (t.size : Int) := by apply IntWalk.i64_in; omega
      have hw2 : 0 ≤ (s.size : Int) - (t.size : Int) := by omega
      have hw3 : (s.size : Int) - (t.size : Int) ≤ (s.size : Int) := by omega
      go_region_held3 (fun _ => True) (first | trivial | go_keep) (fail)
      go_wp2
      rw [Exit.noGoto_ret]
      go_ret3
      exact ⟨(hb1.alloc hb1.size _).drew, _, rfl, _, _, rfl, by simp [msg], by simp; rfl⟩
  · rw [if_neg (by omega)]
    have hl1 : decide ((c : Int) < 128) = false := by simp; omega
    clear hl
    go_enter Tryd.func64, Tryd.ntmps64
    go_wp2_with fail
    go_step3
    go_wp2_with (go_at_call 77; refine CN.out.mono ?_; rintro e w1 ⟨hb1, hr⟩; rw [if_neg (by rw [HB.out]; exact Bool.false_ne_true), HC.out] at hr; subst hr)
    go_step3
    go_upto_region 66 with fail
    generalize s.extract (1 + (Utf8.decode s 1).2) s.size = t at *
    have hw1 : IntKind.i64.wrap ((s.size : Int) - (t.size : Int)) = (s.size : Int) - (t.size : Int) := by apply IntWalk.i64_in; omega
    have hw2 : 0 ≤ (s.size : Int) - (t.size : Int) := by omega
    have hw3 : (s.size : Int) - (t.size : Int) ≤ (s.size : Int) := by omega
    go_region_held3 (fun _ => True) (first | trivial | go_keep) (fail)
    go_wp2
    rw [Exit.noGoto_ret]
    go_ret3
    exact ⟨(hb1.alloc hb1.size _).drew, _, rfl, _, _, rfl, by simp [msg], by simp; rfl⟩
end Go.Proofs.YtholpemmakdglaaDoor.Esc
