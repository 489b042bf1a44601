/- Contracts of the functions by which QuoteMeta tells the bytes that it marks. -/
import Derived.Test.YtholpemmakdglaaRows
import Derived.WalkKit
import Derived.WalkSpells
import Derived.WalkLawsBesides
import Derived.Lib.SlBytesConst
import Derived.LoopN
import Derived.Lib.Hide
namespace Go.Proofs.Ytholpemmakdglaa.Quote
open Go.RowKit
set_option linter.unusedVariables false
theorem cell_mark (w : World) (C : Array Value) (t : TypeId) (fr : Nat × Nat) (n j : Nat) (hn : n = w.heap.size) : (w.alloc (.cells C t fr)).cell? ⟨n, j, none⟩ = C[j]? := by
  subst hn; exact World.cell?_alloc_mark w C t fr j
attribute [local go_sem] cell_mark
def tabA : Array Value := #[.int .u8 0, .int .u8 0, .int .u8 0, .int .u8 0, .int .u8 4, .int .u8 0, .int .u8 0, .int .u8 0, .int .u8 4, .int .u8 4, .int .u8 4, .int .u8 164, .int .u8 160, .int .u8 160, .int .u8 36, .int .u8 8]
set_option maxHeartbeats 4000000 in
theorem sb_any (w : World) :
    Calls Try.prog 44 #[] w fun e w' => e = .returned (.agg tabA) ∧ Below w.heap.size w w' := by
  have kc : ∀ (o : Obj) (C : Array Value) (n c : Nat), (convert 54 54 (.slice (some ⟨w.heap.size + 1, 0, none⟩) n c)).run Try.prog ((w.alloc o).alloc (.cells C 5)) = .ok (.slice (some ⟨w.heap.size + 1, 0, none⟩) n c) ((w.alloc o).alloc (.cells C 5 (C.size, C.size + 1))) := by
    intro o C n c
    have := Lib.run_convert_bytes_const (P := Try.prog) (w.alloc o) 54 5 C n c Try.underlying54 Try.underlying5
    simpa using this
  go_enter Try.func44, Try.ntmps44
  go_wp2
  refine wp_loop_rounds 15 ?_
  iterate 15 (rw [rounds_succ]; go_wp2)
  refine bodyPost_ret (v := .agg tabA) ?_ rfl ?_
  · simp [results, Try.results44, go_sem, tabA]
    decide
  · exact ⟨rfl, ((Below.refl _ _).alloc (Nat.le_refl _) _).alloc (by simp) _⟩

set_option maxHeartbeats 400000 in
theorem sp_hi (c : Int) (w : World) (h0 : 128 ≤ c) (h1 : c ≤ 255) :
    Calls Try.prog 35 #[.int .u8 c] w fun e w' => e = .returned (.bool false) ∧ Below w.heap.size w w' := by
  have hd : decide (c < 128) = false := by simp; omega
  go_enter Try.func35, Try.ntmps35
  go_wp2
  go_ret
  exact ⟨rfl, Below.refl _ _⟩
def tabN (j : Int) : Int := if j = 4 then 4 else if j = 8 then 4 else if j = 9 then 4 else if j = 10 then 4 else if j = 11 then 164 else if j = 12 then 160 else if j = 13 then 160 else if j = 14 then 36 else if j = 15 then 8 else 0
theorem ix_tab (j : Int) (h0 : 0 ≤ j) (h1 : j < 16) (w : World) : (Instr.index 71 (.agg tabA) (.int .u8 j)).run Try.prog w = .ok (.int .u8 (tabN j)) w := by
  have : j = 0 ∨ j = 1 ∨ j = 2 ∨ j = 3 ∨ j = 4 ∨ j = 5 ∨ j = 6 ∨ j = 7 ∨ j = 8 ∨ j = 9 ∨ j = 10 ∨ j = 11 ∨ j = 12 ∨ j = 13 ∨ j = 14 ∨ j = 15 := by omega
  rcases this with rfl | rfl | rfl | rfl | rfl | rfl | rfl | rfl | rfl | rfl | rfl | rfl | rfl | rfl | rfl | rfl <;> (clear h0 h1; rfl)
def spB (c : Int) : Bool := decide (c < 128) && (bits .and .u8 (tabN (c % 16)) (2 ^ (c / 16).toNat % 256) != 0)
set_option maxHeartbeats 400000 in
theorem sp_lo (c : Int) (w : World) (h0 : 0 ≤ c) (h1 : c < 128) :
    Calls Try.prog 35 #[.int .u8 c] w fun e w' => e = .returned (.bool (spB c)) ∧ Below w.heap.size w w' := by
  have hd : decide (c < 128) = true := by simp; omega
  have hix := ix_tab (c % 16) (by omega) (by omega)
  have hs : spB c = (bits .and .u8 (tabN (c % 16)) (2 ^ (c / 16).toNat % 256) != 0) := by simp [spB, hd]
  have HS := Lib.hid hs; clear hs
  go_enter Try.func35, Try.ntmps35
  go_wp2_with (go_at_call 44; refine (sb_any _).mono ?_; rintro e w' ⟨rfl, hb⟩)
  go_ret
  rw [HS.out]
  exact ⟨rfl, hb⟩

theorem spB_hi (c : Int) (h : 128 ≤ c) : spB c = false := by
  have : decide (c < 128) = false := by simp; omega
  simp [spB, this]
theorem sp_any (c : Int) (w : World) (h0 : 0 ≤ c) (h1 : c < 256) :
    Calls Try.prog 35 #[.int .u8 c] w fun e w' => e = .returned (.bool (spB c)) ∧ Below w.heap.size w w' := by
  by_cases h : c < 128
  · exact sp_lo c w h0 h
  · rw [spB_hi c (by omega)]; exact sp_hi c w (by omega) (by omega)
set_option maxHeartbeats 400000 in
theorem zzsp_any (c : Int) (w : World) (h0 : 0 ≤ c) (h1 : c < 256) :
    Calls Try.prog 23 #[.int .u8 c] w fun e w' => e = .returned (.bool (spB c)) ∧ Below w.heap.size w w' := by
  go_enter Try.func23, Try.ntmps23
  go_wp2_with (go_at_call 35; refine (sp_any _ _ (by omega) (by omega)).mono ?_; rintro e w' ⟨rfl, hb⟩)
  go_ret
  exact ⟨rfl, hb⟩
set_option maxHeartbeats 400000 in
theorem rxsp_any (c : Int) (w : World) (h0 : 0 ≤ c) (h1 : c < 256) :
    Calls Try.prog 10 #[.int .u8 c] w fun e w' => e = .returned (.bool (spB c)) ∧ Below w.heap.size w w' := by
  go_enter Try.func10, Try.ntmps10
  go_wp2_with (go_at_call 23; refine (zzsp_any _ _ (by omega) (by omega)).mono ?_; rintro e w' ⟨rfl, hb⟩)
  go_ret
  exact ⟨rfl, hb⟩
def spL : List Nat := [92, 46, 43, 42, 63, 40, 41, 124, 91, 93, 123, 125, 94, 36]
theorem spB_nat : ∀ n : Fin 256, spB ((n.val : Nat) : Int) = decide (n.val ∈ spL) := by decide +kernel
theorem spB_eq (c : Int) (h0 : 0 ≤ c) (h1 : c < 256) : spB c = decide (c.toNat ∈ spL) := by
  obtain ⟨n, rfl⟩ := Int.eq_ofNat_of_zero_le h0
  exact spB_nat ⟨n, by omega⟩
def spS : ByteArray := { data := #[92, 46, 43, 42, 63, 40, 41, 124, 91, 93, 123, 125, 94, 36] }
def at_ (k : Nat) : Int := (spL.getD k 0 : Nat)
theorem spS_at (k : Nat) (h : k < 14) (w : World) : (Instr.index 9 (.string spS) (.int .i64 k)).run Try.prog w = .ok (.int .u8 (at_ k)) w := by
  have : k = 0 ∨ k = 1 ∨ k = 2 ∨ k = 3 ∨ k = 4 ∨ k = 5 ∨ k = 6 ∨ k = 7 ∨ k = 8 ∨ k = 9 ∨ k = 10 ∨ k = 11 ∨ k = 12 ∨ k = 13 := by omega
  rcases this with rfl | rfl | rfl | rfl | rfl | rfl | rfl | rfl | rfl | rfl | rfl | rfl | rfl | rfl <;> (clear h; rfl)
theorem mem_spL (c : Int) (h0 : 0 ≤ c) : c.toNat ∈ spL ↔ ∃ k, k < 14 ∧ at_ k = c := by
  constructor
  · intro h
    obtain ⟨k, hk, e⟩ := List.getElem_of_mem h
    exact ⟨k, hk, by unfold at_; rw [List.getD_eq_getElem?_getD, List.getElem?_eq_getElem hk, Option.getD_some, e]; omega⟩
  · rintro ⟨k, hk, e⟩
    have hk' : k < spL.length := hk
    unfold at_ at e
    rw [List.getD_eq_getElem?_getD, List.getElem?_eq_getElem hk', Option.getD_some] at e
    have : c.toNat = spL[k] := by omega
    rw [this]; exact List.getElem_mem hk'
set_option maxHeartbeats 1000000 in
theorem txsp_any (c : Int) (w : World) (h0 : 0 ≤ c) (h1 : c < 256) :
    Calls Try.prog 11 #[.int .u8 c] w fun e w' => e = .returned (.bool (spB c)) ∧ Below w.heap.size w w' := by
  go_enter Try.func11, Try.ntmps11
  go_wp2
  go_loop [3] (fun i => ∃ k : Nat, k ≤ 14 ∧ (∀ j, j < k → at_ j ≠ c) ∧ i = .int .i64 k) (fun i => 14 - (intOf i).toNat)
  case atStart => exact ⟨0, by omega, by omega, rfl⟩
  case round =>
    obtain ⟨k, hk, hn, rfl⟩ := hrel
    have hn' := Lib.hid hn; clear hn
    by_cases hlt : k < 14
    · have hi := spS_at k hlt
      unfold spS at hi
      by_cases he : at_ k = c
      · have hs : spB c = true := by rw [spB_eq c h0 h1, decide_eq_true_eq, mem_spL c h0]; exact ⟨k, hlt, he⟩
        have hs' := Lib.hid hs; clear hs
        have hb : (at_ k == c) = true := by simpa using he
        clear he
        go_wp2
        go_ret
        rw [hs'.out]; exact ⟨rfl, Below.refl _ _⟩
      · have hb : (at_ k == c) = false := by simpa using he
        have he' := Lib.hid he; clear he
        go_wp2
        go_round
        case rel => exact ⟨k + 1, by omega, fun j hj => if h : j = k then h ▸ he'.out else hn'.out j (by omega), by go_num⟩
        case measure => simp [intOf]; omega
    · have hs : spB c = false := by
        rw [spB_eq c h0 h1, decide_eq_false_iff_not, mem_spL c h0]
        rintro ⟨j, hj, e⟩
        exact hn'.out j (by omega) e
      have hs' := Lib.hid hs; clear hs
      go_wp2
      go_ret
      rw [hs'.out]; exact ⟨rfl, Below.refl _ _⟩
set_option maxHeartbeats 400000 in
theorem law_any (c : Int) (w : World) (h0 : 0 ≤ c) (h1 : c < 256) :
    Calls Try.prog 4 #[.int .u8 c] w fun e w' => e = .returned (.bool true) ∧ Below w.heap.size w w' := by
  go_enter Try.func4, Try.ntmps4
  go_wp2_with (first | (go_at_call 10; refine (rxsp_any _ _ (by omega) (by omega)).mono ?_; rintro e w1 ⟨rfl, hb⟩) | (go_at_call 11; refine (txsp_any _ _ (by omega) (by omega)).mono ?_; rintro e w2 ⟨rfl, hb2⟩))
  go_ret
  exact ⟨by simp, hb.trans (hb2.mono hb.size)⟩
end Go.Proofs.Ytholpemmakdglaa.Quote
