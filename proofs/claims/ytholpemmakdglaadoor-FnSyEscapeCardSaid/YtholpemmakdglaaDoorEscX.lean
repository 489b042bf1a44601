/- The reference's reader of an escape. -/
import Derived.Test.YtholpemmakdglaaDoorEscW
namespace Go.Proofs.YtholpemmakdglaaDoor.Esc
open Go.RowKit Go.Lib Tx
set_option linter.unusedVariables false
theorem hex_c (s : ByteArray) (b k : Nat) (w : World) (h : Rd w b s k 0) (hk : k ≤ s.size) (hm : s.size ≤ 1000) :
    Calls Tryd.prog 62 #[.pointer (some ⟨b, 0, none⟩)] w (HexPost (hexE s k) s b w) := by
  cases hno : (decide (k < s.size) && s.get! k == 123)
  · exact hex_two s b k w h hk hm hno
  · rw [show (123 : UInt8) = UInt8.ofNat 123 from rfl, u8_beq (by omega)] at hno
    simp at hno
    exact hex_br s b k w h hno.1 hm hno.2
set_option maxRecDepth 100000 in
set_option maxHeartbeats 1000000 in
theorem octal_c (s : ByteArray) (q b k : Nat) (err : Int) (w : World) (h : Rd w b s k err) (hq : w.cell? ⟨q, 0, none⟩ = some (.pointer (some ⟨b, 0, none⟩))) (hk : k ≤ s.size) (hm : s.size ≤ 1000) :
    Calls Tryd.prog 60 #[.pointer (some ⟨q, 0, none⟩)] w fun e w' => e = .returned (.bool (octal s k)) ∧ ∃ n, w' = w.drewN n := by
  have h0 := h.s0
  have h1 := h.a1
  clear h
  by_cases hlt : k < s.size
  · have hge := Utf8W.get!_of_lt s k hlt
    have ho : octal s k = (decide (48 ≤ s[k].toNat) && decide (s[k].toNat ≤ 55)) := by unfold octal; rw [hge]; simp [hlt]
    have hd : decide ((k : Int) < (s.size : Int)) = true := by simpa using hlt
    have hbi : (k : Int) < (s.size : Int) := by omega
    rw [ho]
    clear ho hge hd
    by_cases h48 : 48 ≤ s[k].toNat
    · have d48 : decide ((48 : Int) ≤ (s[k].toNat : Int)) = true := by simp; omega
      by_cases h55 : s[k].toNat ≤ 55
      all_goals
        go_enter Tryd.func60, Tryd.ntmps60
        go_wp2_with fail
        go_quiet (fail)
        go_wp2
        go_ret
        exact ⟨ret_bool (by simp [h48, h55]; omega), _, rfl⟩
    · have h47 : s[k].toNat < 48 := by omega
      have d48 : decide ((48 : Int) ≤ (s[k].toNat : Int)) = false := by simp; omega
      go_enter Tryd.func60, Tryd.ntmps60
      go_wp2_with fail
      go_quiet (fail)
      go_wp2
      go_ret
      exact ⟨ret_bool (by simp [h48]), _, rfl⟩
  · have ho : octal s k = false := by unfold octal; simp [hlt]
    have dn : decide (k < s.size) = false := by simpa using hlt
    have hd : decide ((k : Int) < (s.size : Int)) = false := by simp; omega
    have hle : s.size ≤ k := by omega
    rw [ho]
    clear ho hlt
    go_enter Tryd.func60, Tryd.ntmps60
    go_wp2_with fail
    go_quiet (fail)
    go_wp2
    go_ret
    exact ⟨rfl, _, rfl⟩
theorem alloc_at {q : Nat} (w : World) (v : Value) (t : TypeId) (hs : w.heap.size = q) : (w.alloc (.cells #[v] t)).cell? ⟨q, 0, none⟩ = some v := by subst hs; simp
theorem q_keep {w w' : World} {q b : Nat} {v : Value} (hg : w.grownBy w' (some b)) (hq : w.cell? ⟨q, 0, none⟩ = some v) (hne : q ≠ b) : w'.cell? ⟨q, 0, none⟩ = some v :=
  (gb_cell hg (World.block_lt_of_cell? w _ hq) (by simpa using hne)).trans hq
end Go.Proofs.YtholpemmakdglaaDoor.Esc
