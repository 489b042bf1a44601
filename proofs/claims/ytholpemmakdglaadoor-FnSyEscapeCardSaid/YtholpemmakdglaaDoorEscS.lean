/- The reference's reader of an expression: what its block holds; its small methods. -/
import Derived.Test.YtholpemmakdglaaDoorEscR
import Derived.Laws.RangeAny
namespace Go.Proofs.YtholpemmakdglaaDoor.Esc
open Go.RowKit Go.Lib Tx
set_option linter.unusedVariables false
/-- The reader in block b: its text, its place, its first error. -/
structure Rd (w : World) (b : Nat) (s : ByteArray) (k : Nat) (err : Int) : Prop where
  s0 : w.cell? ⟨b, 0, none⟩ = some (.string s)
  a1 : w.cell? ⟨b, 1, none⟩ = some (.int .i64 k)
  f1 : w.frozen? ⟨b, 1, none⟩ = false
  e5 : w.cell? ⟨b, 5, none⟩ = some (.int .i64 err)
  f5 : w.frozen? ⟨b, 5, none⟩ = false
  lt : b < w.heap.size
theorem gb_trans {a b c : World} {r : Option Nat} (h : a.grownBy b r) (k : b.grownBy c r) : a.grownBy c r :=
  ⟨k.os.trans h.os, k.tape.trans h.tape, k.output.trans h.output, Nat.le_trans h.size k.size, fun i hi hr => (k.block i (Nat.lt_of_lt_of_le hi h.size) hr).trans (h.block i hi hr)⟩
theorem gb_drewN (w : World) (n : Nat) (r : Option Nat) : w.grownBy (w.drewN n) r := ⟨rfl, rfl, rfl, Nat.le_refl _, fun _ _ _ => rfl⟩
theorem gb_below {w w' : World} (h : Below w.heap.size w w') (r : Option Nat) : w.grownBy w' r := ⟨h.os, h.tape, h.output, h.size, fun k hk _ => h.block k hk⟩
theorem gb_set (w : World) (b o : Nat) (v : Value) : w.grownBy (w.setCell ⟨b, o, none⟩ v) (some b) :=
  ⟨rfl, rfl, rfl, by simp [World.setCell], fun k hk hr => Below.heap_setCell _ _ _ _ (fun e => hr (by rw [e]))⟩
theorem gb_cell {w w' : World} {r : Option Nat} (hg : w.grownBy w' r) {b o : Nat} (hb : b < w.heap.size) (hr : some b ≠ r) : w'.cell? ⟨b, o, none⟩ = w.cell? ⟨b, o, none⟩ := World.cell?_of_block (w := w) (hg.block b hb hr)
theorem gb_frozen {w w' : World} {r : Option Nat} (hg : w.grownBy w' r) {b o : Nat} (hb : b < w.heap.size) (hr : some b ≠ r) : w'.frozen? ⟨b, o, none⟩ = w.frozen? ⟨b, o, none⟩ := World.frozen?_of_block (w := w) (hg.block b hb hr)
theorem Rd.below {w w' : World} {b k : Nat} {s : ByteArray} {err : Int} (h : Rd w b s k err) (hb : Below w.heap.size w w') : Rd w' b s k err :=
  ⟨(hb.cell (p := ⟨b, 0, none⟩) h.lt).trans h.s0, (hb.cell (p := ⟨b, 1, none⟩) h.lt).trans h.a1, (hb.frozen (p := ⟨b, 1, none⟩) h.lt).trans h.f1, (hb.cell (p := ⟨b, 5, none⟩) h.lt).trans h.e5, (hb.frozen (p := ⟨b, 5, none⟩) h.lt).trans h.f5, Nat.lt_of_lt_of_le h.lt hb.size⟩
theorem Rd.drewN {w : World} {b k : Nat} {s : ByteArray} {err : Int} (h : Rd w b s k err) (n : Nat) : Rd (w.drewN n) b s k err := ⟨h.s0, h.a1, h.f1, h.e5, h.f5, h.lt⟩
theorem Rd.other {w w' : World} {b b' k : Nat} {s : ByteArray} {err : Int} (h : Rd w b s k err) (hg : w.grownBy w' (some b')) (hne : b ≠ b') : Rd w' b s k err :=
  ⟨(gb_cell hg h.lt (by simpa using hne)).trans h.s0, (gb_cell hg h.lt (by simpa using hne)).trans h.a1, (gb_frozen hg h.lt (by simpa using hne)).trans h.f1, (gb_cell hg h.lt (by simpa using hne)).trans h.e5, (gb_frozen hg h.lt (by simpa using hne)).trans h.f5, Nat.lt_of_lt_of_le h.lt hg.size⟩
theorem Rd.setErr {w : World} {b k : Nat} {s : ByteArray} {err : Int} (h : Rd w b s k err) (e : Int) : Rd (w.setCell ⟨b, 5, none⟩ (.int .i64 e)) b s k e := by
  have h0 := h.s0; have h1 := h.a1; have h2 := h.f1; have h3 := h.e5; have h4 := h.f5
  refine ⟨?_, ?_, ?_, ?_, ?_, by simpa [World.setCell] using h.lt⟩
  all_goals go_simp
theorem Rd.setAt {w : World} {b k : Nat} {s : ByteArray} {err : Int} (h : Rd w b s k err) (k' : Nat) : Rd (w.setCell ⟨b, 1, none⟩ (.int .i64 k')) b s k' err := by
  have h0 := h.s0; have h1 := h.a1; have h2 := h.f1; have h3 := h.e5; have h4 := h.f5
  refine ⟨?_, ?_, ?_, ?_, ?_, by simpa [World.setCell] using h.lt⟩
  all_goals go_simp
theorem extract_one (s : ByteArray) (k : Nat) (h : k < s.size) : (s.extract k (k + 1)).toList = [s.get! k] := by
  have hl : k < s.data.toList.length := by rw [← Lib.size_eq]; exact h
  rw [Lib.toList_data, Lib.extract_data, Utf8W.get!_of_lt s k h, show k + 1 - k = 1 by omega, List.drop_eq_getElem_cons hl]
  rfl
/-- What a method leaves: the reader so, nothing else turned. -/
def Left (w : World) (b : Nat) (s : ByteArray) (k : Nat) (err : Int) (w' : World) : Prop := Rd w' b s k err ∧ w.grownBy w' (some b)
section
variable (s : ByteArray) (b k : Nat) (err : Int) (w : World)
set_option maxRecDepth 100000 in
set_option maxHeartbeats 1000000 in
theorem fail_c (kind : Int) (h : Rd w b s k err) :
    Calls Tryd.prog 59 #[.pointer (some ⟨b, 0, none⟩), .int .i64 kind] w fun e w' => e = .returned (.tuple #[]) ∧ Left w b s k (if err = 0 then kind else err) w' := by
  have h3 := h.e5
  have h5 := h.f5
  have HR := Lib.hid h
  clear h
  by_cases he : err = 0
  · have hb : (err == 0) = true := by simpa using he
    rw [if_pos he]
    clear he
    go_enter Tryd.func59, Tryd.ntmps59
    go_wp2
    go_end0
    exact ⟨rfl, HR.out.setErr kind, gb_set _ _ _ _⟩
  · have hb : (err == 0) = false := by simpa using he
    rw [if_neg he]
    clear he
    go_enter Tryd.func59, Tryd.ntmps59
    go_wp2
    go_end0
    exact ⟨rfl, HR.out, World.grownBy.refl _ _⟩
set_option maxRecDepth 100000 in
set_option maxHeartbeats 1000000 in
theorem over_c (h : Rd w b s k err) (hm : s.size ≤ 1000) (hk : k ≤ 5000) :
    Calls Tryd.prog 76 #[.pointer (some ⟨b, 0, none⟩)] w fun e w' => e = .returned (.bool (decide (s.size ≤ k) || err != 0)) ∧ ∃ n, w' = w.drewN n := by
  have h0 := h.s0
  have h1 := h.a1
  have h3 := h.e5
  clear h
  by_cases hle : s.size ≤ k
  · have hd : decide (s.size ≤ k) = true := by simpa using hle
    have hs : (decide (s.size ≤ k) || err != 0) = true := by rw [hd]; rfl
    rw [hs]
    clear hs hle
    go_enter Tryd.func76, Tryd.ntmps76
    go_wp2_with fail
    go_quiet (fail)
    go_wp2
    go_ret
    exact ⟨rfl, _, rfl⟩
  · have hd : decide (s.size ≤ k) = false := by simpa using hle
    have hs : (decide (s.size ≤ k) || err != 0) = (err != 0) := by rw [hd]; rfl
    rw [hs]
    clear hs hle
    go_enter Tryd.func76, Tryd.ntmps76
    go_wp2_with fail
    go_quiet (fail)
    go_wp2
    go_ret
    exact ⟨rfl, _, rfl⟩
set_option maxRecDepth 100000 in
set_option maxHeartbeats 1000000 in
theorem ahead_c (h : Rd w b s k err) (hm : s.size ≤ 1000) (hk : k ≤ s.size) (c : UInt8) :
    Calls Tryd.prog 83 #[.pointer (some ⟨b, 0, none⟩), .string ⟨#[c]⟩] w fun e w' => e = .returned (.bool (decide (k < s.size) && s.get! k == c)) ∧ ∃ n, w' = w.drewN n := by
  have h0 := h.s0
  have h1 := h.a1
  clear h
  have hw1 : IntKind.i64.wrap ((s.size : Int) - (k : Int)) = (s.size : Int) - (k : Int) := by apply IntWalk.i64_in; omega
  have hw2 : IntKind.i64.wrap ((k : Int) + 1) = (k : Int) + 1 := by apply IntWalk.i64_in; omega
  have hw3 : ((k : Int) + 1).toNat = k + 1 := by omega
  by_cases hlt : k < s.size
  · have hd : decide (1 ≤ (s.size : Int) - (k : Int)) = true := by simp; omega
    have hb1 : (k : Int) ≤ (s.size : Int) := by omega
    have hb2 : (k : Int) + 1 ≤ (s.size : Int) := by omega
    have hb3 : (0 : Int) ≤ (k : Int) + 1 := by omega
    have hb4 : (k : Int) ≤ (k : Int) + 1 := by omega
    have hb5 : k + 1 ≤ s.size := by omega
    have hb6 : (k : Int) < (s.size : Int) := by omega
    go_enter Tryd.func83, Tryd.ntmps83
    go_wp2_with fail
    go_quiet (fail)
    go_wp2
    go_ret
    exact ⟨ret_bool (by rw [extract_one s k hlt]; simp [hlt]), _, rfl⟩
  · have hd : decide (1 ≤ (s.size : Int) - (k : Int)) = false := by simp; omega
    have hs : (decide (k < s.size) && s.get! k == c) = false := by simp [hlt]
    rw [hs]
    clear hs hlt hw2 hw3
    go_enter Tryd.func83, Tryd.ntmps83
    go_wp2_with fail
    go_quiet (fail)
    go_wp2
    go_ret
    exact ⟨rfl, _, rfl⟩
set_option maxRecDepth 100000 in
set_option maxHeartbeats 1000000 in
theorem take_c (h : Rd w b s k err) (hm : s.size ≤ 1000) (hk : k ≤ s.size) (c : UInt8) :
    Calls Tryd.prog 74 #[.pointer (some ⟨b, 0, none⟩), .string ⟨#[c]⟩] w fun e w' => e = .returned (.bool (err == 0 && (decide (k < s.size) && s.get! k == c))) ∧ Left w b s (if (err == 0 && (decide (k < s.size) && s.get! k == c)) = true then k + 1 else k) err w' := by
  have h3 := h.e5
  have h1 := h.a1
  have h2 := h.f1
  have CA := Lib.hid (ahead_c s b k err w h hm hk c)
  have HR := Lib.hid h
  clear h
  by_cases he : err = 0
  · have hb : (err != 0) = false := by simpa using he
    have hb2 : (err == 0) = true := by simpa using he
    rw [hb2, Bool.true_and]
    cases ha : (decide (k < s.size) && s.get! k == c)
    · rw [ha] at CA
      rw [if_neg Bool.false_ne_true]
      clear ha he hb2
      go_enter Tryd.func74, Tryd.ntmps74
      go_wp2_with (go_at_call 83; refine CA.out.mono ?_; rintro e w1 ⟨rfl, n, rfl⟩)
      go_ret
      exact ⟨rfl, HR.out.drewN n, gb_drewN _ _ _⟩
    · rw [ha] at CA
      rw [if_pos rfl]
      clear ha he hb2
      go_enter Tryd.func74, Tryd.ntmps74
      go_wp2_with (go_at_call 83; refine CA.out.mono ?_; rintro e w1 ⟨rfl, n, rfl⟩)
      go_ret
      exact ⟨rfl, (HR.out.drewN n).setAt (k + 1), gb_trans (gb_drewN _ _ _) (gb_set _ _ _ _)⟩
  · have hb : (err != 0) = true := by simpa using he
    have hb2 : (err == 0) = false := by simpa using he
    rw [hb2, Bool.false_and, if_neg Bool.false_ne_true]
    clear he hb2
    go_enter Tryd.func74, Tryd.ntmps74
    go_wp2
    go_ret
    exact ⟨rfl, HR.out, World.grownBy.refl _ _⟩
end
end Go.Proofs.YtholpemmakdglaaDoor.Esc
