/- The package's reader of a character, and its tests of one. -/
import Derived.Test.YtholpemmakdglaaDoorTxLib
import Derived.Test.YtholpemmakdglaaDoorTxr
import Derived.Test.YtholpemmakdglaaDoorEscPure
namespace Go.Proofs.YtholpemmakdglaaDoor.Esc
open Go.RowKit Go.Lib Tx
set_option linter.unusedVariables false
abbrev U8 (w : World) : Prop := Lib.Utf8Tabs 3 4 w
theorem dec_u (s : ByteArray) (k : Nat) (w : World) (hk : k < s.size) (hT : U8 w) :
    Calls Tryd.prog 26 #[.string (s.extract k s.size)] w fun e w' => e = .returned (.tuple #[.int .i32 ((Utf8.decode s k).1 : Nat), .int .i64 ((Utf8.decode s k).2 : Nat)]) ∧ Below w.heap.size w w' := by
  have h := Tryd.utf8_DecodeRuneInString (s.extract k s.size) w hT
  have e : Lib.decodeGo (s.extract k s.size) = Utf8.decode s k := by
    unfold Lib.decodeGo
    rw [if_neg (by rw [Lib.tail_size]; omega), Lib.tail_decode, Nat.add_zero]
  rw [e] at h
  exact h
theorem dec_0 (s : ByteArray) (w : World) (hs : s.size = 0) (hT : U8 w) :
    Calls Tryd.prog 26 #[.string s] w fun e w' => e = .returned (.tuple #[.int .i32 65533, .int .i64 0]) ∧ Below w.heap.size w w' := by
  have h := Tryd.utf8_DecodeRuneInString s w hT
  have e : Lib.decodeGo s = (65533, 0) := by
    unfold Lib.decodeGo
    rw [if_pos hs]
  rw [e] at h
  exact h
/-- The text of an error's kind. -/
def msg (kind : Int) : ByteArray := if kind = 13 then ⟨#[116, 114, 97, 105, 108, 105, 110, 103, 32, 98, 97, 99, 107, 115, 108, 97, 115, 104, 32, 97, 116, 32, 101, 110, 100, 32, 111, 102, 32, 101, 120, 112, 114, 101, 115, 115, 105, 111, 110]⟩
  else if kind = 9 then ⟨#[105, 110, 118, 97, 108, 105, 100, 32, 85, 84, 70, 45, 56]⟩ else ⟨#[105, 110, 118, 97, 108, 105, 100, 32, 101, 115, 99, 97, 112, 101, 32, 115, 101, 113, 117, 101, 110, 99, 101]⟩
/-- An error of a kind. -/
def ErrV (w : World) (v : Value) (kind : Int) : Prop := ∃ g ex, v = .iface 93 (.pointer (some ⟨g, 0, none⟩)) ∧ w.cell? ⟨g, 0, none⟩ = some (.string (msg kind)) ∧ w.cell? ⟨g, 1, none⟩ = some (.string ex)
theorem ret_bool {a b : Bool} (h : a = b) : Ending.returned (.bool a) = .returned (.bool b) := by rw [h]
theorem ret_int {k : IntKind} {a b : Int} (h : a = b) : Ending.returned (.int k a) = .returned (.int k b) := by rw [h]
theorem isalnum_c (c : Nat) (w : World) (hc : c < 128) :
    Calls Tryd.prog 78 #[.int .i32 c] w fun e w' => e = .returned (.bool (alnum c)) ∧ w = w' := by
  go_enter Tryd.func78, Tryd.ntmps78
  go_wp2
  all_goals go_ret
  all_goals exact ⟨ret_bool (by rw [Bool.eq_iff_iff]; simp [alnum]; omega), rfl⟩
theorem unhex_c (c : Nat) (w : World) (hc : c ≤ 1114111) :
    Calls Tryd.prog 79 #[.int .i32 c] w fun e w' => e = .returned (.int .i32 (hexv c)) ∧ w = w' := by
  go_enter Tryd.func79, Tryd.ntmps79
  go_wp2
  all_goals go_ret
  all_goals exact ⟨ret_int (by unfold hexv; (repeat' split) <;> omega), rfl⟩
/-- What the reader of a character at place k hands back. -/
def NrPost (s : ByteArray) (k : Nat) (w : World) (e : Ending) (w' : World) : Prop :=
  Below w.heap.size w w' ∧
  if bad s k = true then ∃ v, e = .returned (.tuple #[.int .i32 0, .string ByteArray.empty, v]) ∧ ErrV w' v 9
  else e = .returned (.tuple #[.int .i32 ((Utf8.decode s k).1 : Nat), .string (s.extract (k + (Utf8.decode s k).2) s.size), .nilIface])
set_option maxRecDepth 100000 in
set_option maxHeartbeats 1000000 in
theorem next_c (s : ByteArray) (k : Nat) (w : World) (hk : k < s.size) (hm : s.size ≤ 1000) (hT : U8 w) :
    Calls Tryd.prog 77 #[.string (s.extract k s.size)] w (NrPost s k w) := by
  have CD := Lib.hid (dec_u s k w hk hT)
  have hfit := decode_fits s k hk
  have hmax := decode_max s k
  have hsz : (s.extract k s.size).size = s.size - k := Lib.tail_size s k
  have hee := Lib.hid (ext_ext s k (Utf8.decode s k).2)
  have hbad : bad s k = ((Utf8.decode s k).1 == 65533 && (Utf8.decode s k).2 == 1) := rfl
  have HBD := Lib.hid hbad
  clear hbad hT
  have HP : Hid (∀ e w', (Below w.heap.size w w' ∧ if bad s k = true then ∃ v, e = .returned (.tuple #[.int .i32 0, .string ByteArray.empty, v]) ∧ ErrV w' v 9
     else e = .returned (.tuple #[.int .i32 ((Utf8.decode s k).1 : Nat), .string (s.extract (k + (Utf8.decode s k).2) s.size), .nilIface])) → NrPost s k w e w') := Lib.hid fun e w' h => h
  generalize (Utf8.decode s k).1 = c at *
  generalize (Utf8.decode s k).2 = n at *
  generalize s.extract k s.size = t at *
  cases hb : bad s k
  · have h := HBD.out
    rw [hb] at h
    have HN := Lib.hid h
    clear h
    rw [hb] at HP
    have hnn : n ≤ t.size := by omega
    clear hsz
    by_cases hc : c = 65533
    · have hn1 : ((n : Int) == 1) = false := by
        have := HN.out
        rw [hc] at this
        simp only [beq_self_eq_true, Bool.true_and] at this
        rw [beq_eq_false_iff_ne]
        have h2 := ne_of_beq_false this.symm
        omega
      have hc1 : ((c : Int) == 65533) = true := by rw [hc]; rfl
      clear hc hb
      go_enter Tryd.func77, Tryd.ntmps77
      go_wp2_with (go_at_call 26; refine CD.out.mono ?_; rintro e w1 ⟨rfl, hb1⟩)
      go_quiet (fail)
      go_wp2
      go_ret3
      refine HP.out _ _ ⟨below_dn hb1 _, ?_⟩
      rw [if_neg Bool.false_ne_true, ← hee.out]
      rfl
    · have hc1 : ((c : Int) == 65533) = false := by rw [beq_eq_false_iff_ne]; omega
      clear hc hb
      go_enter Tryd.func77, Tryd.ntmps77
      go_wp2_with (go_at_call 26; refine CD.out.mono ?_; rintro e w1 ⟨rfl, hb1⟩)
      go_quiet (fail)
      go_wp2
      go_ret3
      refine HP.out _ _ ⟨below_dn hb1 _, ?_⟩
      rw [if_neg Bool.false_ne_true, ← hee.out]
      rfl
  · have h := HBD.out
    rw [hb] at h
    simp only [Bool.true_eq, Bool.and_eq_true, beq_iff_eq] at h
    obtain ⟨rfl, rfl⟩ := h
    rw [hb] at HP
    clear hb
    go_enter Tryd.func77, Tryd.ntmps77
    go_wp2_with (go_at_call 26; refine CD.out.mono ?_; rintro e w1 ⟨rfl, hb1⟩)
    refine bodyPost_ret (v := .tuple #[.int .i32 0, .string ByteArray.empty, .iface 93 (.pointer (some ⟨w1.heap.size, 0, none⟩))]) (by simp [results, Tryd.results77, go_sem]; try rfl) rfl (HP.out _ _ ⟨hb1.alloc hb1.size _, ?_⟩)
    exact ⟨_, rfl, w1.heap.size, t, rfl, by simp [msg], by simp⟩
end Go.Proofs.YtholpemmakdglaaDoor.Esc
