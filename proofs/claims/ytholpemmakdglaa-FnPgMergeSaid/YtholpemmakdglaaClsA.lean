/- The checks of ranges, by the reference and by the thin package. -/
import Derived.Test.YtholpemmakdglaaInts
import Derived.Deep.LoopGhost
import Derived.Deep.QuietTactic
import Derived.BigQuiet
namespace Go.Proofs.Ytholpemmakdglaa.Mem
open Go.RowKit
set_option linter.unusedVariables false
theorem drop2 (zs : List Int) (i : Nat) (h : i + 1 < zs.length) : zs.drop i = zs.getD i 0 :: zs.getD (i + 1) 0 :: zs.drop (i + 2) := by
  rw [List.drop_eq_getElem_cons (by omega), List.drop_eq_getElem_cons h]
  simp [List.getD_eq_getElem?_getD, List.getElem?_eq_getElem h, List.getElem?_eq_getElem (show i < zs.length by omega)]
section
variable (A : Option Addr) (cap : Nat) (zs : List Int) (w : World) {B : Nat}
set_option maxRecDepth 100000 in
set_option maxHeartbeats 4000000 in
theorem reClass_any (hm : zs.length ≤ 1000000000000) (hz : IntsAt w B .i32 A zs) :
    Calls Try.prog 25 #[.slice A zs.length cap] w fun e w' => e = .returned (.bool (clsF (-1) zs)) ∧ ∃ q, w' = w.drewN q := by
  obtain ⟨n, hn⟩ : ∃ n, zs.length = n := ⟨_, rfl⟩
  rw [hn] at hm ⊢
  have HZ := Lib.hid hz; clear hz
  have HN := Lib.hid hn; clear hn
  by_cases hev : n % 2 = 0
  · have hne : ((n : Int) % 2 != 0) = false := by simp; omega
    go_enter Try.func25, Try.ntmps25
    go_wp2
    go_loopg [3, 4] (n + 1) (fun g s3 s4 wx => ∃ (i q : Nat) (last : Int), i ≤ n ∧ i % 2 = 0 ∧ n - i < g ∧ s4 = .int .i64 i ∧ s3 = .int .i32 last ∧ wx = w.drewN q ∧ clsF (-1) zs = clsF last (zs.drop i))
    case atStart => exact ⟨0, 0, -1, by omega, rfl, by omega, rfl, rfl, rfl, by simp⟩
    case round =>
      obtain ⟨i, q, last, hi, hi2, hg, rfl, rfl, rfl, hc⟩ := hrel
      have HC := Lib.hid hc; clear hc
      obtain ⟨g', rfl⟩ : ∃ g', gk = g' + 1 := ⟨gk - 1, by omega⟩
      by_cases hlt : i + 1 < n
      · obtain ⟨b, o, rfl, hb, hcell⟩ := HZ.out (by rw [HN.out]; omega)
        have h0 := hcell i (by rw [HN.out]; omega)
        have h1 := hcell (i + 1) (by rw [HN.out]; omega)
        have hd := drop2 zs i (by rw [HN.out]; exact hlt)
        obtain ⟨x, hx⟩ : ∃ x, zs.getD i 0 = x := ⟨_, rfl⟩
        obtain ⟨y, hy⟩ : ∃ x, zs.getD (i + 1) 0 = x := ⟨_, rfl⟩
        rw [hx] at h0 hd
        rw [hy] at h1 hd
        have hc := HC.out
        rw [hd] at hc
        have HC2 := Lib.hid hc
        have HI := Lib.hid hi2
        clear hcell hd hx hy hc HC hi2 hev
        have hin : (i : Int) < (n : Int) := by omega
        have hin1 : (i : Int) + 1 < (n : Int) := by omega
        by_cases hx1 : x ≤ last
        · have hf : clsF (-1) zs = false := by rw [HC2.out]; simp [clsF]; omega
          have HF := Lib.hid hf; clear hf
          have d1 : decide (x ≤ last) = true := by simpa using hx1
          go_wp2_with fail
          go_quiet (fail)
          go_wp2
          go_ret
          rw [HF.out]
          exact ⟨rfl, _, World.drewN_drewN _ _ _⟩
        · have d1 : decide (x ≤ last) = false := by simpa using hx1
          by_cases hx2 : y < x
          · have hf : clsF (-1) zs = false := by rw [HC2.out]; simp [clsF]; omega
            have HF := Lib.hid hf; clear hf
            have d2 : decide (y < x) = true := by simpa using hx2
            go_wp2_with fail
            go_quiet (fail)
            go_wp2
            go_ret
            rw [HF.out]
            exact ⟨rfl, _, World.drewN_drewN _ _ _⟩
          · have d2 : decide (y < x) = false := by simpa using hx2
            by_cases hx3 : 1114111 < y
            · have hf : clsF (-1) zs = false := by rw [HC2.out]; simp [clsF]; omega
              have HF := Lib.hid hf; clear hf
              have d3 : decide (1114111 < y) = true := by simpa using hx3
              go_wp2_with fail
              go_quiet (fail)
              go_wp2
              go_ret
              rw [HF.out]
              exact ⟨rfl, _, World.drewN_drewN _ _ _⟩
            · have d3 : decide (1114111 < y) = false := by simpa using hx3
              go_wp2_with fail
              go_quiet (fail)
              go_wp2
              go_roundg g'
              case rel => exact ⟨i + 2, _, y, by omega, by have := HI.out; omega, by omega, by go_num, rfl, rfl, by rw [HC2.out]; simp [clsF]; omega⟩
              case measure => omega
      · have hin : i = n := by omega
        have hf : clsF (-1) zs = true := by rw [HC.out, hin, List.drop_of_length_le (by rw [HN.out]; omega)]; rfl
        have HF := Lib.hid hf; clear hf
        subst hin
        go_wp2
        go_ret
        rw [HF.out]
        exact ⟨rfl, _, rfl⟩
  · have hne : ((n : Int) % 2 != 0) = true := by simp; omega
    have hf : clsF (-1) zs = false := by
      cases h : clsF (-1) zs with
      | false => rfl
      | true => exact absurd (clsF_even zs _ h) (by rw [HN.out]; exact hev)
    have HF := Lib.hid hf; clear hf
    go_enter Try.func25, Try.ntmps25
    go_wp2
    go_ret
    rw [HF.out]
    exact ⟨rfl, 0, rfl⟩
set_option maxRecDepth 100000 in
set_option maxHeartbeats 1000000 in
theorem ReClass_any (hm : zs.length ≤ 1000000000000) (hz : IntsAt w B .i32 A zs) :
    Calls Try.prog 13 #[.slice A zs.length cap] w fun e w' => e = .returned (.bool (clsF (-1) zs)) ∧ ∃ q, w' = w.drewN q := by
  have H := Lib.hid (reClass_any A cap zs w hm hz)
  clear hz
  go_enter Try.func13, Try.ntmps13
  go_wp2_with (go_at_call 25; refine (Calls.mono H.out ?_); rintro e w1 ⟨rfl, q1, rfl⟩)
  go_ret
  exact ⟨rfl, q1, rfl⟩
set_option maxRecDepth 100000 in
set_option maxHeartbeats 4000000 in
theorem pairs_any (hm : zs.length ≤ 1000000000000) (hz : IntsAt w B .i32 A zs) :
    Calls Try.prog 26 #[.slice A zs.length cap] w fun e w' => e = .returned (.bool (clsF (-1) zs)) ∧ ∃ q, w' = w.drewN q := by
  obtain ⟨n, hn⟩ : ∃ n, zs.length = n := ⟨_, rfl⟩
  rw [hn] at hm ⊢
  have HZ := Lib.hid hz; clear hz
  have HN := Lib.hid hn; clear hn
  go_enter Try.func26, Try.ntmps26
  go_wp2
  go_loopg [3, 4] (n + 1) (fun g s3 s4 wx => ∃ (i q : Nat) (last : Int), i ≤ n ∧ n - i < g ∧ s4 = .int .i64 i ∧ s3 = .int .i32 last ∧ wx = w.drewN q ∧ clsF (-1) zs = clsF last (zs.drop i))
  case atStart => exact ⟨0, 0, -1, by omega, by omega, rfl, rfl, rfl, by simp⟩
  case round =>
    obtain ⟨i, q, last, hi, hg, rfl, rfl, rfl, hc⟩ := hrel
    have HC := Lib.hid hc; clear hc
    obtain ⟨g', rfl⟩ : ∃ g', gk = g' + 1 := ⟨gk - 1, by omega⟩
    by_cases hlt : i + 1 < n
    · obtain ⟨b, o, rfl, hb, hcell⟩ := HZ.out (by rw [HN.out]; omega)
      have h0 := hcell i (by rw [HN.out]; omega)
      have h1 := hcell (i + 1) (by rw [HN.out]; omega)
      have hd := drop2 zs i (by rw [HN.out]; exact hlt)
      obtain ⟨x, hx⟩ : ∃ x, zs.getD i 0 = x := ⟨_, rfl⟩
      obtain ⟨y, hy⟩ : ∃ x, zs.getD (i + 1) 0 = x := ⟨_, rfl⟩
      rw [hx] at h0 hd
      rw [hy] at h1 hd
      have hc := HC.out
      rw [hd] at hc
      have HC2 := Lib.hid hc
      clear hcell hd hx hy hc HC
      have hin : (i : Int) < (n : Int) := by omega
      have hin1 : (i : Int) + 1 < (n : Int) := by omega
      have hne : ((i : Int) + 1 == (n : Int)) = false := by simp; omega
      by_cases hx1 : x ≤ last
      · have hf : clsF (-1) zs = false := by rw [HC2.out]; simp [clsF]; omega
        have HF := Lib.hid hf; clear hf
        have d1 : decide (x ≤ last) = true := by simpa using hx1
        go_wp2_with fail
        go_quiet (fail)
        go_wp2
        go_ret
        rw [HF.out]
        exact ⟨rfl, _, World.drewN_drewN _ _ _⟩
      · have d1 : decide (x ≤ last) = false := by simpa using hx1
        by_cases hx2 : y < x
        · have hf : clsF (-1) zs = false := by rw [HC2.out]; simp [clsF]; omega
          have HF := Lib.hid hf; clear hf
          have d2 : decide (y < x) = true := by simpa using hx2
          go_wp2_with fail
          go_quiet (fail)
          go_wp2
          go_ret
          rw [HF.out]
          exact ⟨rfl, _, World.drewN_drewN _ _ _⟩
        · have d2 : decide (y < x) = false := by simpa using hx2
          by_cases hx3 : 1114111 < y
          · have hf : clsF (-1) zs = false := by rw [HC2.out]; simp [clsF]; omega
            have HF := Lib.hid hf; clear hf
            have d3 : decide (1114111 < y) = true := by simpa using hx3
            go_wp2_with fail
            go_quiet (fail)
            go_wp2
            go_ret
            rw [HF.out]
            exact ⟨rfl, _, World.drewN_drewN _ _ _⟩
          · have d3 : decide (1114111 < y) = false := by simpa using hx3
            go_wp2_with fail
            go_quiet (fail)
            go_wp2
            go_roundg g'
            case rel => exact ⟨i + 2, _, y, by omega, by omega, by go_num, rfl, rfl, by rw [HC2.out]; simp [clsF]; omega⟩
            case measure => omega
    · by_cases hin : i + 1 = n
      · have hf : clsF (-1) zs = false := by
          have hl : (zs.drop i).length = 1 := by rw [List.length_drop, HN.out]; omega
          rw [HC.out]
          match zs.drop i, hl with
          | [_], _ => rfl
        have HF := Lib.hid hf; clear hf
        have hne : ((i : Int) + 1 == (n : Int)) = true := by simp; omega
        have hin1 : (i : Int) < (n : Int) := by omega
        clear hlt hin
        go_wp2_with fail
        go_quiet (fail)
        go_wp2
        go_ret
        rw [HF.out]
        exact ⟨rfl, _, World.drewN_drewN _ _ _⟩
      · have hin : i = n := by omega
        have hf : clsF (-1) zs = true := by rw [HC.out, hin, List.drop_of_length_le (by rw [HN.out]; omega)]; rfl
        have HF := Lib.hid hf; clear hf
        subst hin
        go_wp2
        go_ret
        rw [HF.out]
        exact ⟨rfl, _, rfl⟩
end
end Go.Proofs.Ytholpemmakdglaa.Mem
