/- The checks of ranges, by the reference and by the thin package; of characters; whether two characters are the same but for their case. -/
import Derived.Test.YtholpemmakdglaaDoorMatchPos
import Derived.Deep.QuietTactic
import Derived.BigQuiet
namespace Go.Proofs.YtholpemmakdglaaDoor.Mem
open Go.RowKit Fold
set_option linter.unusedVariables false
theorem drop2 (zs : List Int) (i : Nat) (h : i + 1 < zs.length) : zs.drop i = zs.getD i 0 :: zs.getD (i + 1) 0 :: zs.drop (i + 2) := by
  rw [List.drop_eq_getElem_cons (by omega), List.drop_eq_getElem_cons h]
  simp [List.getD_eq_getElem?_getD, List.getElem?_eq_getElem h, List.getElem?_eq_getElem (show i < zs.length by omega)]
section
variable (A : Option Addr) (cap : Nat) (zs : List Int) (w : World) {B : Nat}
set_option maxRecDepth 100000 in
set_option maxHeartbeats 4000000 in
theorem reClass_any (hm : zs.length ≤ 1000000000000) (hz : IntsAt w B .i32 A zs) :
    Calls Tryd.prog 29 #[.slice A zs.length cap] w fun e w' => e = .returned (.bool (clsF (-1) zs)) ∧ ∃ q, w' = w.drewN q := by
  obtain ⟨n, hn⟩ : ∃ n, zs.length = n := ⟨_, rfl⟩
  rw [hn] at hm ⊢
  have HZ := Lib.hid hz; clear hz
  have HN := Lib.hid hn; clear hn
  by_cases hev : n % 2 = 0
  · have hne : ((n : Int) % 2 != 0) = false := by simp; omega
    go_enter Tryd.func29, Tryd.ntmps29
    go_wp2
    go_loopg [3, 4] (n + 1) (fun g s3 s4 wx => ∃ (i q : Nat) (last : Int), i ≤ n ∧ i % 2 = 0 ∧ n - i < g ∧ s4 = .int .i64 i ∧ s3 = .int .i32 last ∧ wx = w.drewN q ∧ clsF (-1) zs = clsF last (zs.drop i))
    case atStart => exact ⟨0, 0, -1, by omega, rfl, by omega, rfl, rfl, rfl, by simp⟩
    case round =>
      obtain ⟨i, q, last, hi, hi2, hg, rfl, rfl, rfl, hc⟩ := hrel
      have HC := Lib.hid hc; clear hc
      obtain ⟨g', rfl⟩ : ∃ g', gk = g' + 1 := ⟨gk - 1, by omega⟩
      by_cases hlt : i + 1 < n
      · obtain ⟨b, o, rfl, hb, hcell⟩ := HZ.out (by rw [HN.out]; omega)
        have h0 := hcell i (by rw [HN.out]; omega)
        have h1 := hcell (i + 1) (by rw [HN.out]; omega)
        have hd := drop2 zs i (by rw [HN.out]; exact hlt)
        obtain ⟨x, hx⟩ : ∃ x, zs.getD i 0 = x := ⟨_, rfl⟩
        obtain ⟨y, hy⟩ : ∃ x, zs.getD (i + 1) 0 = x := ⟨_, rfl⟩
        rw [hx] at h0 hd
        rw [hy] at h1 hd
        have hc := HC.out
        rw [hd] at hc
        have HC2 := Lib.hid hc
        have HI := Lib.hid hi2
        clear hcell hd hx hy hc HC hi2 hev
        have hin : (i : Int) < (n : Int) := by omega
        have hin1 : (i : Int) + 1 < (n : Int) := by omega
        by_cases hx1 : x ≤ last
        · have hf : clsF (-1) zs = false := by rw [HC2.out]; simp [clsF]; omega
          have HF := Lib.hid hf; clear hf
          have d1 : decide (x ≤ last) = true := by simpa using hx1
          go_wp2_with fail
          go_quiet (fail)
          go_wp2
          go_ret
          rw [HF.out]
          exact ⟨rfl, _, World.drewN_drewN _ _ _⟩
        · have d1 : decide (x ≤ last) = false := by simpa using hx1
          by_cases hx2 : y < x
          · have hf : clsF (-1) zs = false := by rw [HC2.out]; simp [clsF]; omega
            have HF := Lib.hid hf; clear hf
            have d2 : decide (y < x) = true := by simpa using hx2
            go_wp2_with fail
            go_quiet (fail)
            go_wp2
            go_ret
            rw [HF.out]
            exact ⟨rfl, _, World.drewN_drewN _ _ _⟩
          · have d2 : decide (y < x) = false := by simpa using hx2
            by_cases hx3 : 1114111 < y
            · have hf : clsF (-1) zs = false := by rw [HC2.out]; simp [clsF]; omega
              have HF := Lib.hid hf; clear hf
              have d3 : decide (1114111 < y) = true := by simpa using hx3
              go_wp2_with fail
              go_quiet (fail)
              go_wp2
              go_ret
              rw [HF.out]
              exact ⟨rfl, _, World.drewN_drewN _ _ _⟩
            · have d3 : decide (1114111 < y) = false := by simpa using hx3
              go_wp2_with fail
              go_quiet (fail)
              go_wp2
              go_roundg g'
              case rel => exact ⟨i + 2, _, y, by omega, by have := HI.out; omega, by omega, by go_num, rfl, rfl, by rw [HC2.out]; simp [clsF]; omega⟩
              case measure => omega
      · have hin : i = n := by omega
        have hf : clsF (-1) zs = true := by rw [HC.out, hin, List.drop_of_length_le (by rw [HN.out]; omega)]; rfl
        have HF := Lib.hid hf; clear hf
        subst hin
        go_wp2
        go_ret
        rw [HF.out]
        exact ⟨rfl, _, rfl⟩
  · have hne : ((n : Int) % 2 != 0) = true := by simp; omega
    have hf : clsF (-1) zs = false := by
      cases h : clsF (-1) zs with
      | false => rfl
      | true => exact absurd (clsF_even zs _ h) (by rw [HN.out]; exact hev)
    have HF := Lib.hid hf; clear hf
    go_enter Tryd.func29, Tryd.ntmps29
    go_wp2
    go_ret
    rw [HF.out]
    exact ⟨rfl, 0, rfl⟩
set_option maxRecDepth 100000 in
set_option maxHeartbeats 1000000 in
theorem ReClass_any (hm : zs.length ≤ 1000000000000) (hz : IntsAt w B .i32 A zs) :
    Calls Tryd.prog 13 #[.slice A zs.length cap] w fun e w' => e = .returned (.bool (clsF (-1) zs)) ∧ ∃ q, w' = w.drewN q := by
  have H := Lib.hid (reClass_any A cap zs w hm hz)
  clear hz
  go_enter Tryd.func13, Tryd.ntmps13
  go_wp2_with (go_at_call 29; refine (Calls.mono H.out ?_); rintro e w1 ⟨rfl, q1, rfl⟩)
  go_ret
  exact ⟨rfl, q1, rfl⟩
set_option maxRecDepth 100000 in
set_option maxHeartbeats 4000000 in
theorem pairs_any (hm : zs.length ≤ 1000000000000) (hz : IntsAt w B .i32 A zs) :
    Calls Tryd.prog 51 #[.slice A zs.length cap] w fun e w' => e = .returned (.bool (clsF (-1) zs)) ∧ ∃ q, w' = w.drewN q := by
  obtain ⟨n, hn⟩ : ∃ n, zs.length = n := ⟨_, rfl⟩
  rw [hn] at hm ⊢
  have HZ := Lib.hid hz; clear hz
  have HN := Lib.hid hn; clear hn
  go_enter Tryd.func51, Tryd.ntmps51
  go_wp2
  go_loopg [3, 4] (n + 1) (fun g s3 s4 wx => ∃ (i q : Nat) (last : Int), i ≤ n ∧ n - i < g ∧ s4 = .int .i64 i ∧ s3 = .int .i32 last ∧ wx = w.drewN q ∧ clsF (-1) zs = clsF last (zs.drop i))
  case atStart => exact ⟨0, 0, -1, by omega, by omega, rfl, rfl, rfl, by simp⟩
  case round =>
    obtain ⟨i, q, last, hi, hg, rfl, rfl, rfl, hc⟩ := hrel
    have HC := Lib.hid hc; clear hc
    obtain ⟨g', rfl⟩ : ∃ g', gk = g' + 1 := ⟨gk - 1, by omega⟩
    by_cases hlt : i + 1 < n
    · obtain ⟨b, o, rfl, hb, hcell⟩ := HZ.out (by rw [HN.out]; omega)
      have h0 := hcell i (by rw [HN.out]; omega)
      have h1 := hcell (i + 1) (by rw [HN.out]; omega)
      have hd := drop2 zs i (by rw [HN.out]; exact hlt)
      obtain ⟨x, hx⟩ : ∃ x, zs.getD i 0 = x := ⟨_, rfl⟩
      obtain ⟨y, hy⟩ : ∃ x, zs.getD (i + 1) 0 = x := ⟨_, rfl⟩
      rw [hx] at h0 hd
      rw [hy] at h1 hd
      have hc := HC.out
      rw [hd] at hc
      have HC2 := Lib.hid hc
      clear hcell hd hx hy hc HC
      have hin : (i : Int) < (n : Int) := by omega
      have hin1 : (i : Int) + 1 < (n : Int) := by omega
      have hne : ((i : Int) + 1 == (n : Int)) = false := by simp; omega
      by_cases hx1 : x ≤ last
      · have hf : clsF (-1) zs = false := by rw [HC2.out]; simp [clsF]; omega
        have HF := Lib.hid hf; clear hf
        have d1 : decide (x ≤ last) = true := by simpa using hx1
        go_wp2_with fail
        go_quiet (fail)
        go_wp2
        go_ret
        rw [HF.out]
        exact ⟨rfl, _, World.drewN_drewN _ _ _⟩
      · have d1 : decide (x ≤ last) = false := by simpa using hx1
        by_cases hx2 : y < x
        · have hf : clsF (-1) zs = false := by rw [HC2.out]; simp [clsF]; omega
          have HF := Lib.hid hf; clear hf
          have d2 : decide (y < x) = true := by simpa using hx2
          go_wp2_with fail
          go_quiet (fail)
          go_wp2
          go_ret
          rw [HF.out]
          exact ⟨rfl, _, World.drewN_drewN _ _ _⟩
        · have d2 : decide (y < x) = false := by simpa using hx2
          by_cases hx3 : 1114111 < y
          · have hf : clsF (-1) zs = false := by rw [HC2.out]; simp [clsF]; omega
            have HF := Lib.hid hf; clear hf
            have d3 : decide (1114111 < y) = true := by simpa using hx3
            go_wp2_with fail
            go_quiet (fail)
            go_wp2
            go_ret
            rw [HF.out]
            exact ⟨rfl, _, World.drewN_drewN _ _ _⟩
          · have d3 : decide (1114111 < y) = false := by simpa using hx3
            go_wp2_with fail
            go_quiet (fail)
            go_wp2
            go_roundg g'
            case rel => exact ⟨i + 2, _, y, by omega, by omega, by go_num, rfl, rfl, by rw [HC2.out]; simp [clsF]; omega⟩
            case measure => omega
    · by_cases hin : i + 1 = n
      · have hf : clsF (-1) zs = false := by
          have hl : (zs.drop i).length = 1 := by rw [List.length_drop, HN.out]; omega
          rw [HC.out]
          match zs.drop i, hl with
          | [_], _ => rfl
        have HF := Lib.hid hf; clear hf
        have hne : ((i : Int) + 1 == (n : Int)) = true := by simp; omega
        have hin1 : (i : Int) < (n : Int) := by omega
        clear hlt hin
        go_wp2_with fail
        go_quiet (fail)
        go_wp2
        go_ret
        rw [HF.out]
        exact ⟨rfl, _, World.drewN_drewN _ _ _⟩
      · have hin : i = n := by omega
        have hf : clsF (-1) zs = true := by rw [HC.out, hin, List.drop_of_length_le (by rw [HN.out]; omega)]; rfl
        have HF := Lib.hid hf; clear hf
        subst hin
        go_wp2
        go_ret
        rw [HF.out]
        exact ⟨rfl, _, rfl⟩
set_option maxRecDepth 100000 in
set_option maxHeartbeats 1000000 in
theorem characters_any (hm : zs.length ≤ 1000000000000) (hz : IntsAt w B .i32 A zs) (hok : ∀ i, i < zs.length → 0 ≤ zs.getD i 0 ∧ zs.getD i 0 ≤ 1114111) :
    Calls Tryd.prog 50 #[.slice A zs.length cap] w fun e w' => e = .returned (.bool true) ∧ ∃ q, w' = w.drewN q := by
  obtain ⟨n, hn⟩ : ∃ n, zs.length = n := ⟨_, rfl⟩
  rw [hn] at hm ⊢
  have HZ := Lib.hid hz; clear hz
  have HN := Lib.hid hn; clear hn
  have HO := Lib.hid hok; clear hok
  go_enter Tryd.func50, Tryd.ntmps50
  go_wp2
  go_loopg [7] (n + 1) (fun g s7 wx => ∃ i : Nat, i ≤ n ∧ n - i < g ∧ s7 = .int .i64 i ∧ wx = w)
  case atStart => exact ⟨0, by omega, by omega, rfl, rfl⟩
  case round =>
    obtain ⟨i, hi, hg, rfl, rfl⟩ := hrel
    obtain ⟨g', rfl⟩ : ∃ g', gk = g' + 1 := ⟨gk - 1, by omega⟩
    by_cases hlt : i < n
    · obtain ⟨b, o, rfl, hb, hcell⟩ := HZ.out (by rw [HN.out]; omega)
      have h0 := hcell i (by rw [HN.out]; omega)
      have ho := HO.out i (by rw [HN.out]; omega)
      obtain ⟨x, hx⟩ : ∃ x, zs.getD i 0 = x := ⟨_, rfl⟩
      rw [hx] at h0 ho
      have d1 : decide (x < 0) = false := by simp; omega
      have d2 : decide (1114111 < x) = false := by simp; omega
      clear hcell hx
      go_wp2
      go_roundg g'
      case rel => exact ⟨i + 1, by omega, by omega, by go_num, rfl⟩
      case measure => omega
    · have hin : i = n := by omega
      subst hin
      go_wp2
      go_ret
      exact ⟨rfl, 0, rfl⟩
/-- The laws' check of a list of characters. -/
def okL (zs : List Int) : Bool := zs.all fun x => decide (0 ≤ x) && decide (x ≤ 1114111)
theorem okL_at {zs : List Int} (h : okL zs = true) (i : Nat) (hi : i < zs.length) : 0 ≤ zs.getD i 0 ∧ zs.getD i 0 ≤ 1114111 := by
  have := List.all_eq_true.1 h _ (List.getElem_mem hi)
  simpa [List.getD_eq_getElem?_getD, List.getElem?_eq_getElem hi] using this
theorem okL_no {zs : List Int} (i : Nat) (hi : i < zs.length) (h : ¬ (0 ≤ zs.getD i 0 ∧ zs.getD i 0 ≤ 1114111)) : okL zs = false := by
  cases e : okL zs with
  | false => rfl
  | true => exact absurd (okL_at e i hi) h
theorem okL_all {zs : List Int} (h : ∀ i, i < zs.length → 0 ≤ zs.getD i 0 ∧ zs.getD i 0 ≤ 1114111) : okL zs = true := by
  refine List.all_eq_true.2 fun x hx => ?_
  obtain ⟨i, hi, rfl⟩ := List.getElem_of_mem hx
  have := h i hi
  simpa [List.getD_eq_getElem?_getD, List.getElem?_eq_getElem hi] using this
set_option maxRecDepth 100000 in
set_option maxHeartbeats 1000000 in
theorem syPairs_any (hm : zs.length ≤ 1000000000000) (hz : IntsAt w B .i32 A zs) :
    Calls Tryd.prog 12 #[.slice A zs.length cap] w fun e w' => e = .returned (.bool (okL zs && decide (zs.length ≤ 200))) ∧ ∃ q, w' = w.drewN q := by
  obtain ⟨n, hn⟩ : ∃ n, zs.length = n := ⟨_, rfl⟩
  rw [hn] at hm ⊢
  have HZ := Lib.hid hz; clear hz
  have HN := Lib.hid hn; clear hn
  go_enter Tryd.func12, Tryd.ntmps12
  go_wp2
  go_loopg [7] (n + 1) (fun g s7 wx => ∃ i : Nat, i ≤ n ∧ n - i < g ∧ s7 = .int .i64 i ∧ wx = w ∧ ∀ j, j < i → 0 ≤ zs.getD j 0 ∧ zs.getD j 0 ≤ 1114111)
  case atStart => exact ⟨0, by omega, by omega, rfl, rfl, by omega⟩
  case round =>
    obtain ⟨i, hi, hg, rfl, rfl, hok⟩ := hrel
    have HO := Lib.hid hok; clear hok
    obtain ⟨g', rfl⟩ : ∃ g', gk = g' + 1 := ⟨gk - 1, by omega⟩
    by_cases hlt : i < n
    · obtain ⟨b, o, rfl, hb, hcell⟩ := HZ.out (by rw [HN.out]; omega)
      have h0 := hcell i (by rw [HN.out]; omega)
      obtain ⟨x, hx⟩ : ∃ x, zs.getD i 0 = x := ⟨_, rfl⟩
      rw [hx] at h0
      have HX := Lib.hid hx
      clear hcell hx
      by_cases hx1 : x < 0
      · have hf : okL zs = false := okL_no i (by rw [HN.out]; exact hlt) (by rw [HX.out]; omega)
        have HF := Lib.hid hf; clear hf
        go_wp2
        go_ret
        rw [HF.out]
        exact ⟨rfl, 0, rfl⟩
      · by_cases hx2 : 1114111 < x
        · have hf : okL zs = false := okL_no i (by rw [HN.out]; exact hlt) (by rw [HX.out]; omega)
          have HF := Lib.hid hf; clear hf
          have d1 : decide (x < 0) = false := by simpa using hx1
          go_wp2
          go_ret
          rw [HF.out]
          exact ⟨rfl, 0, rfl⟩
        · have d1 : decide (x < 0) = false := by simpa using hx1
          have d2 : decide (1114111 < x) = false := by simpa using hx2
          go_wp2
          go_roundg g'
          case rel => exact ⟨i + 1, by omega, by omega, by go_num, rfl, fun j hj => if h : j = i then by rw [h, HX.out]; omega else HO.out j (by omega)⟩
          case measure => omega
    · have hin : i = n := by omega
      subst hin
      have hf : okL zs = true := okL_all fun j hj => HO.out j (by rw [HN.out] at hj; exact hj)
      have HF := Lib.hid hf; clear hf
      go_wp2
      go_ret
      rw [HF.out]
      exact ⟨by simp; omega, 0, rfl⟩
end
set_option maxRecDepth 100000 in
set_option maxHeartbeats 1000000 in
theorem reFolds_any (r c : Int) (w : World) {B p : Nat} (hF : FoldV B w) (hp : Per r p) :
    Calls Tryd.prog 30 #[.int .i32 r, .int .i32 c] w fun e w' => e = .returned (.bool (inOrb r c)) ∧ ∃ q, w' = w.drewN q := by
  have HF := Lib.hid hF; clear hF
  have HP := Lib.hid hp; clear hp
  by_cases he : r = c
  · have hs : inOrb r c = true := inOrb_at HP.out (j := 0) (by have := HP.out.pos; omega) he
    have HS := Lib.hid hs; clear hs
    have hb : (r == c) = true := by simpa using he
    clear he
    go_enter Tryd.func30, Tryd.ntmps30
    go_wp2
    go_ret
    rw [HS.out]
    exact ⟨rfl, 0, rfl⟩
  · have hb : (r == c) = false := by simpa using he
    have HE := Lib.hid he; clear he
    go_enter Tryd.func30, Tryd.ntmps30
    go_wp2_with (go_at_call 44; refine (sf_any _ _ HF.out).mono ?_; rintro e w1 ⟨rfl, q1, rfl⟩)
    go_loopg [5] (p + 1) (fun g s5 wx => ∃ k q : Nat, 1 ≤ k ∧ k ≤ p ∧ p - k < g ∧ s5 = .int .i32 (itF k r) ∧ wx = w.drewN q ∧ (∀ j, j < k → itF j r ≠ c))
    case atStart => exact ⟨1, q1, by omega, HP.out.pos, by omega, rfl, rfl, fun j hj => by
      have h0 : j = 0 := by omega
      rw [h0]
      exact HE.out⟩
    case round =>
      obtain ⟨k, q, hk1, hk2, hg, rfl, rfl, hno⟩ := hrel
      have HN := Lib.hid hno; clear hno
      obtain ⟨g', rfl⟩ : ∃ g', gk = g' + 1 := ⟨gk - 1, by omega⟩
      by_cases hlt : k < p
      · have hne : (itF k r != r) = true := by simpa using HP.out.first k hk1 hlt
        by_cases hck : itF k r = c
        · have hs : inOrb r c = true := inOrb_at HP.out hlt hck
          have HS := Lib.hid hs
          have hb2 : (itF k r == c) = true := by simpa using hck
          clear hck hs
          go_wp2
          go_ret
          rw [HS.out]
          exact ⟨rfl, q, rfl⟩
        · have hb2 : (itF k r == c) = false := by simpa using hck
          have HCK := Lib.hid hck; clear hck
          go_wp2_with (go_at_call 44; refine (sf_any _ _ (HF.out.drewN q)).mono ?_; rintro e w1 ⟨rfl, q2, rfl⟩)
          go_roundg g'
          case rel => exact ⟨k + 1, q + q2, by omega, by omega, by omega, rfl, rfl, fun j hj => if h : j = k then h ▸ HCK.out else HN.out j (by omega)⟩
          case measure => omega
      · obtain rfl : k = p := by omega
        have hne : (itF k r != r) = false := by simpa using HP.out.back
        have hs : inOrb r c = false := inOrb_no HP.out HN.out
        have HS := Lib.hid hs; clear hs
        go_wp2
        go_ret
        rw [HS.out]
        exact ⟨rfl, q, rfl⟩
set_option maxRecDepth 100000 in
set_option maxHeartbeats 1000000 in
theorem ReFolds_any (r c : Int) (w : World) {B p : Nat} (hF : FoldV B w) (hp : Per r p) :
    Calls Tryd.prog 14 #[.int .i32 r, .int .i32 c] w fun e w' => e = .returned (.bool (inOrb r c)) ∧ ∃ q, w' = w.drewN q := by
  have H := Lib.hid (reFolds_any r c w hF hp)
  clear hF hp
  go_enter Tryd.func14, Tryd.ntmps14
  go_wp2_with (go_at_call 30; refine (Calls.mono H.out ?_); rintro e w1 ⟨rfl, q1, rfl⟩)
  go_ret
  exact ⟨rfl, q1, rfl⟩
/-- To be of one orbit holds both ways. -/
theorem inOrb_swap {r c : Int} {p : Nat} (hp : Per r p) (h : inOrb r c = true) : inOrb c r = true := by
  have hh : ∃ j, j < p ∧ itF j r = c := by
    obtain ⟨j, _, hj⟩ := List.any_eq_true.1 h
    obtain ⟨i, hi, he⟩ := itF_per hp j
    exact ⟨i, hi, by rw [← he]; simpa using hj⟩
  obtain ⟨j, hj, rfl⟩ := hh
  have hb : itF (p - j) (itF j r) = r := by
    rw [← itF_add, show p - j + j = p by omega]; exact hp.back
  have hle := hp.le
  by_cases h0 : j = 0
  · subst h0
    exact List.any_eq_true.2 ⟨0, by simp, by simp [itF]⟩
  · exact List.any_eq_true.2 ⟨p - j, List.mem_range.2 (by omega), by simpa using hb⟩
theorem inOrb_comm {r c : Int} {p q : Nat} (hp : Per r p) (hq : Per c q) : inOrb r c = inOrb c r := by
  cases h : inOrb r c with
  | true => exact (inOrb_swap hp h).symm
  | false =>
    cases h2 : inOrb c r with
    | false => rfl
    | true => rw [inOrb_swap hq h2] at h; cases h
end Go.Proofs.YtholpemmakdglaaDoor.Mem
