/- The reference's reader of a character. -/
import Derived.Test.YtholpemmakdglaaDoorEscS
import Derived.LoopN
import Derived.Deep.RegionHeld3
namespace Go.Proofs.YtholpemmakdglaaDoor.Esc
open Go.RowKit Go.Lib Tx
set_option linter.unusedVariables false
theorem below_iter (w : World) (s : ByteArray) (pos : Nat) : Below w.heap.size w (w.iter s pos) := (Below.refl _ _).alloc (Nat.le_refl _) _
theorem decode_ff (s : ByteArray) (k : Nat) (h : (Utf8.decode s k).1 = 65533) : (Utf8.decode s k).2 = 1 ∨ (Utf8.decode s k).2 = 3 := by
  have hb : ∀ j, (s.get! (k + j)).toNat < 256 := fun j => (s.get! (k + j)).toNat_lt
  have h0 := hb 0; have h1 := hb 1; have h2 := hb 2; have h3 := hb 3
  revert h
  simp only [Utf8.decode]
  repeat' split
  all_goals simp_all [Utf8.runeError, Utf8.valid]
  all_goals omega
theorem ok_bad (s : ByteArray) (k : Nat) : ((Utf8.decode s k).1 != 65533 || (Utf8.decode s k).2 == 3) = !bad s k := by
  unfold bad
  by_cases h : (Utf8.decode s k).1 = 65533
  · rcases decode_ff s k h with h2 | h2 <;> simp [h, h2]
  · have h' : ((Utf8.decode s k).1 == 65533) = false := by simpa using h
    rw [bne, h']
    rfl
set_option maxRecDepth 100000 in
set_option maxHeartbeats 1000000 in
theorem sychar_c (s : ByteArray) (w : World) (h0 : 0 < s.size) (hm : s.size ≤ 1000) :
    Calls Tryd.prog 73 #[.string s] w fun e w' => e = .returned (.tuple #[.int .i32 ((Utf8.decode s 0).1 : Nat), .int .i64 ((Utf8.decode s 0).2 : Nat), .bool ((Utf8.decode s 0).1 != 65533 || (Utf8.decode s 0).2 == 3)]) ∧ Below w.heap.size w w' := by
  have hfit := decode_fits s 0 h0
  have hmax := decode_max s 0
  have hnx0 : ∀ ty, (Instr.next (.pointer (some ⟨w.heap.size, 0, none⟩)) true ty).run Tryd.prog (w.iter s 0) = _ := fun ty => run_next_any w s 0 ty h0
  rw [Nat.zero_add] at hnx0
  generalize (Utf8.decode s 0).1 = c at *
  generalize (Utf8.decode s 0).2 = n at *
  have hn0 : (0 : Int) < (n : Int) := by omega
  have hok : (c != 65533 || n == 3) = (((c : Int) != 65533) || ((n : Int) == 3)) := by
    rw [Bool.eq_iff_iff]; simp; omega
  rw [hok]
  clear hok
  have hle : n ≤ s.size := by omega
  clear hfit hmax
  cases hcb : ((c : Int) != 65533)
  all_goals
    by_cases hlt : n < s.size
    · have hnx1 : ∀ ty, (Instr.next (.pointer (some ⟨w.heap.size, 0, none⟩)) true ty).run Tryd.prog (w.iter s n) = _ := fun ty => run_next_any w s n ty hlt
      have hxx : ∃ q, n + (Utf8.decode s n).2 = q := ⟨_, rfl⟩
      obtain ⟨q, hq⟩ := hxx
      have hyy : ∃ r, (Utf8.decode s n).1 = r := ⟨_, rfl⟩
      obtain ⟨r, hr⟩ := hyy
      rw [hq, hr] at hnx1
      clear hq hr
      go_enter Tryd.func73, Tryd.ntmps73
      go_wp2
      refine wp_loop_rounds 2 ?_
      rw [rounds_succ]
      go_wp2
      rw [rounds_succ]
      go_wp2
      go_ret3
      exact ⟨rfl, below_iter _ _ _⟩
    · obtain rfl : n = s.size := by omega
      have hnx1 : ∀ ty, (Instr.next (.pointer (some ⟨w.heap.size, 0, none⟩)) true ty).run Tryd.prog (w.iter s s.size) = _ := fun ty => run_next_end w s s.size ty hlt
      go_enter Tryd.func73, Tryd.ntmps73
      go_wp2
      refine wp_loop_rounds 2 ?_
      rw [rounds_succ]
      go_wp2
      rw [rounds_succ]
      go_wp2
      go_ret3
      exact ⟨rfl, below_iter _ _ _⟩
set_option maxRecDepth 100000 in
set_option maxHeartbeats 4000000 in
theorem char_c (s : ByteArray) (b k : Nat) (err : Int) (w : World) (h : Rd w b s k err) (hk : k < s.size) (hm : s.size ≤ 1000) :
    Calls Tryd.prog 61 #[.pointer (some ⟨b, 0, none⟩)] w fun e w' => e = .returned (.int .i32 ((Utf8.decode s k).1 : Nat)) ∧ Left w b s (k + (Utf8.decode s k).2) (if bad s k = true ∧ err = 0 then 9 else err) w' := by
  have h0 := h.s0
  have h1 := h.a1
  have hz : (s.extract k s.size).size = s.size - k := Lib.tail_size s k
  have hfit := decode_fits s k hk
  have hmax := decode_max s k
  have CS : Hid (∀ w1, Calls Tryd.prog 73 #[.string (s.extract k s.size)] w1 fun e w' => e = .returned (.tuple #[.int .i32 ((Utf8.decode s k).1 : Nat), .int .i64 ((Utf8.decode s k).2 : Nat), .bool (!bad s k)]) ∧ Below w1.heap.size w1 w') := Lib.hid fun w1 => by
    have h := sychar_c (s.extract k s.size) w1 (by omega) (by omega)
    have e : Utf8.decode (s.extract k s.size) 0 = Utf8.decode s k := by rw [Lib.tail_decode, Nat.add_zero]
    rw [e, ok_bad] at h
    exact h
  have HR := Lib.hid h
  clear h hz
  have hb1 : (k : Int) ≤ (s.size : Int) := by omega
  generalize (Utf8.decode s k).1 = c at *
  generalize (Utf8.decode s k).2 = n at *
  cases hb : bad s k
  · rw [hb] at CS
    rw [if_neg (fun h => Bool.false_ne_true h.1)]
    clear hb
    go_enter Tryd.func61, Tryd.ntmps61
    go_wp2_with fail
    go_region_held3 (fun w' => w'.cell? ⟨b, 0, none⟩ = some (.string s) ∧ w'.cell? ⟨b, 1, none⟩ = some (.int .i64 k)) (go_keep)
      ((go_at_call 73; refine (CS.out _).mono ?_; rintro e w1 ⟨rfl, hbw⟩; have k0 := Tx.cell_below hbw (a := ⟨b, 0, none⟩) h0; have k1 := Tx.cell_below hbw (a := ⟨b, 1, none⟩) h1))
    have hbq : Below w.heap.size w w1 := (Below.refl _ _).drew.trans hbw
    have HR1 := Lib.hid (HR.out.below hbq)
    have hf := HR1.out.f1
    have HB := Lib.hid hbq
    clear hbw hbq
    go_wp2
    go_ret
    exact ⟨rfl, by have := HR1.out.setAt (k + n); rwa [Int.natCast_add] at this, gb_trans (gb_below HB.out _) (gb_set _ _ _ _)⟩
  · rw [hb] at CS
    have CF : Hid (∀ w1, Rd w1 b s k err → Calls Tryd.prog 59 #[.pointer (some ⟨b, 0, none⟩), .int .i64 9] w1 fun e w' => e = .returned (.tuple #[]) ∧ Left w1 b s k (if err = 0 then 9 else err) w') := Lib.hid fun w1 h => fail_c s b k err w1 9 h
    have he : (if true = true ∧ err = 0 then (9 : Int) else err) = if err = 0 then 9 else err := by simp
    rw [he]
    clear hb he
    generalize (if err = 0 then (9 : Int) else err) = err' at *
    go_enter Tryd.func61, Tryd.ntmps61
    go_wp2_with fail
    go_region_held3 (fun w' => w'.cell? ⟨b, 0, none⟩ = some (.string s) ∧ w'.cell? ⟨b, 1, none⟩ = some (.int .i64 k)) (go_keep)
      ((go_at_call 73; refine (CS.out _).mono ?_; rintro e w1 ⟨rfl, hbw⟩; have k0 := Tx.cell_below hbw (a := ⟨b, 0, none⟩) h0; have k1 := Tx.cell_below hbw (a := ⟨b, 1, none⟩) h1))
    have hbq : Below w.heap.size w w1 := (Below.refl _ _).drew.trans hbw
    have HR1 := Lib.hid (HR.out.below hbq)
    have HB := Lib.hid hbq
    clear hbw hbq
    go_wp2_with fail
    refine (CF.out _ HR1.out).mono ?_
    rintro e w2 ⟨rfl, hR2, hg2⟩
    have HR2 := Lib.hid hR2
    have HG2 := Lib.hid hg2
    have g1 := hR2.a1
    have gf := hR2.f1
    clear hR2 hg2 k0 k1 h0 h1
    go_wp2
    go_ret
    exact ⟨rfl, by have := HR2.out.setAt (k + n); rwa [Int.natCast_add] at this, gb_trans (gb_trans (gb_below HB.out _) HG2.out) (gb_set _ _ _ _)⟩
end Go.Proofs.YtholpemmakdglaaDoor.Esc
