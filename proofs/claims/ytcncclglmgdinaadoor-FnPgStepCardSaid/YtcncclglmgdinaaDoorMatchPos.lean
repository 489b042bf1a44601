/- MatchRunePos and MatchRune of an instruction of characters: the number of the range that has the character; of one character alone, with its case folded, whether the other one is of its orbit. -/
import Derived.Test.YtcncclglmgdinaaDoorOrbit
import Derived.Test.YtcncclglmgdinaaDoorMemA
namespace Go.Proofs.YtcncclglmgdinaaDoor.Mem
open Go.RowKit Fold
set_option linter.unusedVariables false
/-- c is one of the characters that differ from r in case alone, or r. -/
def inOrb (r c : Int) : Bool := (List.range 4).any fun j => itF j r == c
theorem inOrb_at {r c : Int} {p j : Nat} (hp : Per r p) (hj : j < p) (h : itF j r = c) : inOrb r c = true :=
 List.any_eq_true.2 ⟨j, List.mem_range.2 (by have := hp.le; omega), by simpa using h⟩
theorem itF_per {r : Int} {p : Nat} (hp : Per r p) : ∀ j, ∃ i, i < p ∧ itF j r = itF i r
 | 0 => ⟨0, by have := hp.pos; omega, rfl⟩
 | j + 1 => by
  obtain ⟨i, hi, e⟩ := itF_per hp j
  by_cases h : i + 1 < p
  ·exact ⟨i + 1, h, by simp only [itF]; rw [e]⟩
  ·have : i + 1 = p := by omega
   refine ⟨0, by have := hp.pos; omega, ?_⟩
   have hb := hp.back
   rw [← this] at hb
   simp only [itF] at hb ⊢
   rw [e, hb]
theorem inOrb_no {r c : Int} {p : Nat} (hp : Per r p) (h : ∀ j, j < p → itF j r ≠ c) : inOrb r c = false := by
 cases e : inOrb r c with
 | false => rfl
 | true =>
  obtain ⟨j, _, hj⟩ := List.any_eq_true.1 e
  obtain ⟨i, hi, he⟩ := itF_per hp j
  exact absurd (by rw [← he]; simpa using hj) (h i hi)
def posI (zs : List Int) (arg c : Int) : Int :=
 match zs with
 | [r] => if c = r ∨ (arg = 1 ∧ inOrb r c = true) then 0 else -1
 | zs => posF c 0 zs
section
variable (b o : Nat) (A : Option Addr) (cap : Nat) (arg c : Int) (w : World) {B : Nat}
set_option maxRecDepth 100000 in
set_option maxHeartbeats 1000000 in
theorem mrp_0 (hR : w.cell? ⟨b, o + 3, none⟩ = some (.slice A 0 cap)) :
  Calls Tryd.prog 77 #[.pointer (some ⟨b, o, none⟩), .int .i32 c] w fun e w' => e = .returned (.int .i64 (-1)) ∧ ∃ q, w' = w.drewN q := by
 go_enter Tryd.func77, Tryd.ntmps77
 go_wp2
 go_ret
 exact ⟨rfl, 0, rfl⟩
set_option maxRecDepth 100000 in
set_option maxHeartbeats 1000000 in
theorem mrp_1 (r : Int) (p : Nat) (hF : FoldV B w) (hp : Per r p) (harg : arg = 0 ∨ arg = 1) (hA : w.cell? ⟨b, o + 2, none⟩ = some (.int .u32 arg)) (hR : w.cell? ⟨b, o + 3, none⟩ = some (.slice A 1 cap)) (hz : IntsAt w B .i32 A [r]) :
  Calls Tryd.prog 77 #[.pointer (some ⟨b, o, none⟩), .int .i32 c] w fun e w' => e = .returned (.int .i64 (posI [r] arg c)) ∧ ∃ q, w' = w.drewN q := by
 obtain ⟨zb, zo, rfl, hzb, hc⟩ := hz (by simp)
 have hc0 := hc 0 (by simp)
 simp only [Nat.add_zero, List.getD_cons_zero] at hc0
 clear hc
 have HF := Lib.hid hF; clear hF
 have HP := Lib.hid hp; clear hp
 by_cases he : c = r
 ·have hs : posI [r] arg c = 0 := by simp [posI, he]
  have HS := Lib.hid hs
  have hb : (c == r) = true := by simpa using he
  clear he hs
  go_enter Tryd.func77, Tryd.ntmps77
  go_wp2
  go_ret
  rw [HS.out]
  exact ⟨rfl, 0, rfl⟩
 ·have hb : (c == r) = false := by simpa using he
  rcases harg with rfl | rfl
  ·have hs : posI [r] 0 c = -1 := by simp [posI, he]
   have HS := Lib.hid hs
   have hbit : (bits .and .u16 0 1 != 0) = false := by decide
   clear he hs
   go_enter Tryd.func77, Tryd.ntmps77
   go_wp2
   go_ret
   rw [HS.out]
   exact ⟨rfl, 0, rfl⟩
  ·have hbit : (bits .and .u16 1 1 != 0) = true := by decide
   have HE := Lib.hid he; clear he
   go_enter Tryd.func77, Tryd.ntmps77
   go_wp2_with (go_at_call 63; refine (sf_any _ _ HF.out).mono ?_; rintro e w1 ⟨rfl, q1, rfl⟩)
   go_loopg [7] (p + 1) (fun g s7 wx => ∃ k q : Nat, 1 ≤ k ∧ k ≤ p ∧ p - k < g ∧ s7 = .int .i32 (itF k r) ∧ wx = w.drewN q ∧ (∀ j, j < k → itF j r ≠ c))
   case atStart => exact ⟨1, q1, by omega, HP.out.pos, by omega, rfl, rfl, fun j hj => by
    have h0 : j = 0 := by omega
    rw [h0]
    exact fun e => HE.out e.symm⟩
   case round =>
    obtain ⟨k, q, hk1, hk2, hg, rfl, rfl, hno⟩ := hrel
    have HN := Lib.hid hno; clear hno
    obtain ⟨g', rfl⟩ : ∃ g', gk = g' + 1 := ⟨gk - 1, by omega⟩
    by_cases hlt : k < p
    ·have hne : (itF k r != r) = true := by simpa using HP.out.first k hk1 hlt
     by_cases hck : c = itF k r
     ·have hs : posI [r] 1 c = 0 := by simp [posI, inOrb_at HP.out hlt hck.symm]
      have HS := Lib.hid hs
      have hb2 : (c == itF k r) = true := by simpa using hck
      clear hck hs
      go_wp2
      go_ret
      rw [HS.out]
      exact ⟨rfl, q, rfl⟩
     ·have hb2 : (c == itF k r) = false := by simpa using hck
      have HCK := Lib.hid hck; clear hck
      go_wp2_with (go_at_call 63; refine (sf_any _ _ (HF.out.drewN q)).mono ?_; rintro e w1 ⟨rfl, q2, rfl⟩)
      go_roundg g'
      case rel => exact ⟨k + 1, q + q2, by omega, by omega, by omega, rfl, rfl, fun j hj => if h : j = k then h ▸ fun e => HCK.out e.symm else HN.out j (by omega)⟩
      case measure => omega
    ·obtain rfl : k = p := by omega
     have hne : (itF k r != r) = false := by simpa using HP.out.back
     have hs : posI [r] 1 c = -1 := by
      have h1 := inOrb_no HP.out HN.out
      simp [posI, HE.out, h1]
     have HS := Lib.hid hs; clear hs
     go_wp2
     go_ret
     rw [HS.out]
     exact ⟨rfl, q, rfl⟩
set_option maxRecDepth 100000 in
set_option maxHeartbeats 1000000 in
theorem mrp_2 (lo hi : Int) (hR : w.cell? ⟨b, o + 3, none⟩ = some (.slice A 2 cap)) (hz : IntsAt w B .i32 A [lo, hi]) :
  Calls Tryd.prog 77 #[.pointer (some ⟨b, o, none⟩), .int .i32 c] w fun e w' => e = .returned (.int .i64 (posF c 0 [lo, hi])) ∧ ∃ q, w' = w.drewN q := by
 obtain ⟨zb, zo, rfl, hzb, hc⟩ := hz (by simp)
 have hc0 := hc 0 (by simp)
 have hc1 := hc 1 (by simp)
 simp only [Nat.add_zero, List.getD_cons_zero, List.getD_cons_succ] at hc0 hc1
 clear hc
 by_cases h1 : lo ≤ c
 ·by_cases h2 : c ≤ hi
  ·have hs : posF c 0 [lo, hi] = 0 := by simp [posF, h1, h2]
   have HS := Lib.hid hs; clear hs
   have d1 : decide (lo ≤ c) = true := by simpa using h1
   have d2 : decide (c ≤ hi) = true := by simpa using h2
   go_enter Tryd.func77, Tryd.ntmps77
   go_wp2
   go_ret
   rw [HS.out]
   exact ⟨rfl, 0, rfl⟩
  ·have hs : posF c 0 [lo, hi] = -1 := by simp [posF, h2]
   have HS := Lib.hid hs; clear hs
   have d1 : decide (lo ≤ c) = true := by simpa using h1
   have d2 : decide (c ≤ hi) = false := by simpa using h2
   go_enter Tryd.func77, Tryd.ntmps77
   go_wp2
   go_ret
   rw [HS.out]
   exact ⟨rfl, 0, rfl⟩
 ·have hs : posF c 0 [lo, hi] = -1 := by simp [posF, h1]
  have HS := Lib.hid hs; clear hs
  have d1 : decide (lo ≤ c) = false := by simpa using h1
  go_enter Tryd.func77, Tryd.ntmps77
  go_wp2
  go_ret
  rw [HS.out]
  exact ⟨rfl, 0, rfl⟩
theorem pos_lt (zs : List Int) (k : Nat) (hs : clsF (-1) zs = true) (hk : 2 * k + 1 < zs.length) (hn : ∀ i, i < k → ¬ (zs.getD (2 * i) 0 ≤ c ∧ c ≤ zs.getD (2 * i + 1) 0)) (hlt : c < zs.getD (2 * k) 0) : posF c 0 zs = -1 := by
 refine posF_none c zs 0 fun i hi h => ?_
 rcases Nat.lt_or_ge i k with h' | h'
 ·exact hn i h' h
 ·have hcc := h
  rcases Nat.eq_or_lt_of_le h' with h2 | h2
  ·subst h2; omega
  ·have hap := clsF_apart zs (-1) hs k i h2 hi
   have := clsF_le zs (-1) hs k hk
   omega
set_option maxRecDepth 100000 in
set_option maxHeartbeats 4000000 in
theorem mrp_few (zs : List Int) (n : Nat) (h : n = 4 ∨ n = 6 ∨ n = 8) (hl : zs.length = n) (hs : clsF (-1) zs = true) (hR : w.cell? ⟨b, o + 3, none⟩ = some (.slice A n cap)) (hz : IntsAt w B .i32 A zs) :
  Calls Tryd.prog 77 #[.pointer (some ⟨b, o, none⟩), .int .i32 c] w fun e w' => e = .returned (.int .i64 (posF c 0 zs)) ∧ ∃ q, w' = w.drewN q := by
 obtain ⟨zb, zo, rfl, hzb, hc⟩ := hz (by omega)
 have HC := Lib.hid hc; clear hc hz
 have HZ := Lib.hid hs; clear hs
 have HL := Lib.hid hl; clear hl
 rcases h with rfl | rfl | rfl
 all_goals
  go_enter Tryd.func77, Tryd.ntmps77
  go_wp2
  go_loopg [8] 6 (fun g s8 wx => ∃ j : Nat, j % 2 = 0 ∧ j ≤ zs.length ∧ zs.length < j + 2 * g ∧ s8 = .int .i64 j ∧ wx = w ∧ (∀ i, 2 * i < j → ¬ (zs.getD (2 * i) 0 ≤ c ∧ c ≤ zs.getD (2 * i + 1) 0)))
  case atStart => exact ⟨0, rfl, by omega, by have := HL.out; omega, rfl, rfl, by omega⟩
  case round =>
   obtain ⟨j, hj2, hj, hg, rfl, rfl, hno⟩ := hrel
   have HN := Lib.hid hno; clear hno
   have hl' := HL.out
   obtain ⟨g', rfl⟩ : ∃ g', gk = g' + 1 := ⟨gk - 1, by omega⟩
   by_cases hlt : j + 1 < zs.length
   ·have h0 := HC.out j (by omega)
    have h1 := HC.out (j + 1) hlt
    have hj8 : (j : Int) < (zs.length : Nat) := by omega
    have hj9 : (j : Int) + 1 < (zs.length : Nat) := by omega
    rw [hl'] at hj8 hj9
    have HJ := Lib.hid hj2
    obtain ⟨lo, hlo⟩ : ∃ x, zs.getD j 0 = x := ⟨_, rfl⟩
    obtain ⟨hi, hhi⟩ : ∃ x, zs.getD (j + 1) 0 = x := ⟨_, rfl⟩
    rw [hlo] at h0
    rw [hhi] at h1
    have HLO := Lib.hid hlo
    have HHI := Lib.hid hhi
    have hjk : 2 * (j / 2) = j := by omega
    have HJK := Lib.hid hjk
    clear hlo hhi hl' hj2 hjk
    by_cases hc1 : c < lo
    ·have hs : posF c 0 zs = -1 := pos_lt c zs (j / 2) HZ.out (by rw [HJK.out]; exact hlt) (fun i hi' => HN.out i (by have := HJK.out; omega)) (by rw [HJK.out, HLO.out]; exact hc1)
     have HS := Lib.hid hs; clear hs
     go_wp2
     go_ret
     rw [HS.out]
     exact ⟨rfl, 0, rfl⟩
    ·by_cases hc2 : c ≤ hi
     ·have hs : posF c 0 zs = ((j / 2 : Nat) : Int) := by
       have := posF_some c zs (-1) 0 (j / 2) HZ.out (by rw [HJK.out]; exact hlt) (by rw [HJK.out, HLO.out]; omega) (by rw [HJK.out, HHI.out]; omega)
       rw [this]; omega
      have HS := Lib.hid hs; clear hs
      go_wp2
      go_ret
      rw [HS.out]
      exact ⟨by simp, 0, rfl⟩
     ·go_wp2
      go_roundg g'
      case rel => exact ⟨j + 2, by have := HJ.out; omega, by omega, by omega, by go_num, rfl, fun i hi' => by
       by_cases h2 : 2 * i < j
       ·exact HN.out i h2
       ·have h3 : 2 * i = j := by have := HJ.out; omega
        rw [h3, HLO.out, HHI.out]; omega⟩
      case measure => omega
   ·have hs : posF c 0 zs = -1 := posF_none c zs 0 fun i hi => HN.out i (by omega)
    have HS := Lib.hid hs; clear hs
    have hjn : j = zs.length := by omega
    rw [hl'] at hjn
    subst hjn
    clear hl' hlt
    go_wp2
    go_ret
    rw [HS.out]
    exact ⟨rfl, 0, rfl⟩
set_option maxRecDepth 100000 in
set_option maxHeartbeats 4000000 in
theorem mrp_many (zs : List Int) (h : 10 ≤ zs.length) (hm : zs.length ≤ 1000000000000) (hs : clsF (-1) zs = true) (hR : w.cell? ⟨b, o + 3, none⟩ = some (.slice A zs.length cap)) (hz : IntsAt w B .i32 A zs) :
  Calls Tryd.prog 77 #[.pointer (some ⟨b, o, none⟩), .int .i32 c] w fun e w' => e = .returned (.int .i64 (posF c 0 zs)) ∧ ∃ q, w' = w.drewN q := by
 obtain ⟨zb, zo, rfl, hzb, hc⟩ := hz (by omega)
 have HC := Lib.hid hc; clear hc hz
 have hev := clsF_even zs _ hs
 have HZ := Lib.hid hs; clear hs
 obtain ⟨n, hn⟩ : ∃ n, zs.length = n := ⟨_, rfl⟩
 rw [hn] at hR h hm hev
 have HN := Lib.hid hn; clear hn
 have HE := Lib.hid hev; clear hev
 have hn0 : ((n : Int) == 0) = false := by simp; omega
 have hn1 : ((n : Int) == 1) = false := by simp; omega
 have hn2 : ((n : Int) == 2) = false := by simp; omega
 have hn4 : ((n : Int) == 4) = false := by simp; omega
 have hn6 : ((n : Int) == 6) = false := by simp; omega
 have hn8 : ((n : Int) == 8) = false := by simp; omega
 go_enter Tryd.func77, Tryd.ntmps77
 go_wp2
 go_loopg [9, 10] (n / 2 + 1) (fun g s9 s10 wx => ∃ lo hi : Nat, lo ≤ hi ∧ hi ≤ n / 2 ∧ hi - lo < g ∧ s9 = .int .i64 lo ∧ s10 = .int .i64 hi ∧ wx = w ∧ (∀ i, i < lo → zs.getD (2 * i + 1) 0 < c) ∧ (∀ i, hi ≤ i → i < n / 2 → c < zs.getD (2 * i) 0))
 case atStart => exact ⟨0, n / 2, by omega, by omega, by omega, rfl, by simp, rfl, by omega, by omega⟩
 case round =>
  obtain ⟨lo, hi, hlh, hhn, hg, rfl, rfl, rfl, hlo, hhi⟩ := hrel
  have H1 := Lib.hid hlo
  have H2 := Lib.hid hhi
  clear hlo hhi
  obtain ⟨g', rfl⟩ : ∃ g', gk = g' + 1 := ⟨gk - 1, by omega⟩
  have hn2' : 2 * (n / 2) = n := by have := HE.out; omega
  have HN2 := Lib.hid hn2'; clear hn2'
  have hnn : n / 2 ≤ n := by omega
  by_cases hlt : lo < hi
  ·have hz : (lo : Int) < (hi : Int) := by omega
   obtain ⟨m, hm'⟩ : ∃ m, (lo + hi) / 2 = m := ⟨_, rfl⟩
   have hmr : lo ≤ m ∧ m < hi := by omega
   have hmz : ((lo : Int) + (hi : Int)) / 2 = (m : Int) := by omega
   have hlen : 2 * m + 1 < n := by have := HN2.out; omega
   have h0 := HC.out (2 * m) (by rw [HN.out]; omega)
   have h1 := HC.out (2 * m + 1) (by rw [HN.out]; omega)
   obtain ⟨a1, ha1⟩ : ∃ x, zs.getD (2 * m) 0 = x := ⟨_, rfl⟩
   obtain ⟨a2, ha2⟩ : ∃ x, zs.getD (2 * m + 1) 0 = x := ⟨_, rfl⟩
   rw [ha1] at h0
   rw [ha2] at h1
   have HA1 := Lib.hid ha1
   have HA2 := Lib.hid ha2
   clear ha1 ha2 hm'
   have hk1 : (2 * (m : Int)).toNat = 2 * m := by omega
   have hk2 : (2 * (m : Int) + 1).toNat = 2 * m + 1 := by omega
   have hmn : 2 * (m : Int) + 1 < (n : Int) := by omega
   by_cases hc1 : a1 ≤ c
   ·by_cases hc2 : c ≤ a2
    ·have hs : posF c 0 zs = (m : Int) := by
      have := posF_some c zs (-1) 0 m HZ.out (by rw [HN.out]; exact hlen) (by rw [HA1.out]; exact hc1) (by rw [HA2.out]; exact hc2)
      rw [this]; omega
     have HS := Lib.hid hs; clear hs
     go_wp2
     go_ret
     rw [HS.out]
     exact ⟨rfl, 0, rfl⟩
    ·go_wp2
     go_roundg g'
     case rel => exact ⟨m + 1, hi, by omega, hhn, by omega, by go_num, rfl, rfl, fun i hi' => by
      by_cases h2 : i = m
      ·rw [h2, HA2.out]; omega
      ·have := clsF_apart zs (-1) HZ.out i m (by omega) (by rw [HN.out]; exact hlen)
       rw [HA1.out] at this; omega, H2.out⟩
     case measure => omega
   ·go_wp2
    go_roundg g'
    case rel => exact ⟨lo, m, by omega, by omega, by omega, rfl, rfl, rfl, H1.out, fun i hi1 hi2 => by
     by_cases h2 : i = m
     ·rw [h2, HA1.out]; omega
     ·have hap := clsF_apart zs (-1) HZ.out m i (by omega) (by rw [HN.out]; have := HN2.out; omega)
      have hle := clsF_le zs (-1) HZ.out m (by rw [HN.out]; exact hlen)
      rw [HA1.out] at hle
      omega⟩
    case measure => omega
  ·have hs : posF c 0 zs = -1 := posF_none c zs 0 fun i hi' hh => by
    rw [HN.out] at hi'
    by_cases h2 : i < lo
    ·have := H1.out i h2; omega
    ·have := H2.out i (by omega) (by omega); omega
   have HS := Lib.hid hs; clear hs
   go_wp2
   go_ret
   rw [HS.out]
   exact ⟨rfl, 0, rfl⟩
/-- What an instruction of characters may hold: one character, or ranges. -/
def Runes (zs : List Int) (arg : Int) : Prop := (∃ r p, zs = [r] ∧ Per r p ∧ (arg = 0 ∨ arg = 1)) ∨ clsF (-1) zs = true
theorem posI_cls (zs : List Int) (arg : Int) (h : clsF (-1) zs = true) : posI zs arg c = posF c 0 zs := by
 have := clsF_even zs _ h
 unfold posI
 match zs, this with
 | [], _ => rfl
 | _ :: _ :: _, _ => rfl
theorem mrp_any (zs : List Int) (hm : zs.length ≤ 1000000000000) (hF : FoldV B w) (hr : Runes zs arg) (hA : w.cell? ⟨b, o + 2, none⟩ = some (.int .u32 arg)) (hR : w.cell? ⟨b, o + 3, none⟩ = some (.slice A zs.length cap)) (hz : IntsAt w B .i32 A zs) :
  Calls Tryd.prog 77 #[.pointer (some ⟨b, o, none⟩), .int .i32 c] w fun e w' => e = .returned (.int .i64 (posI zs arg c)) ∧ ∃ q, w' = w.drewN q := by
 rcases hr with ⟨r, p, rfl, hp, harg⟩ | hs
 ·exact mrp_1 b o A cap arg c w r p hF hp harg hA hR hz
 ·rw [posI_cls c zs arg hs]
  have hev := clsF_even zs _ hs
  by_cases h0 : zs.length = 0
  ·obtain rfl := List.eq_nil_of_length_eq_zero h0
   exact mrp_0 b o A cap c w hR
  by_cases h2 : zs.length = 2
  ·match zs, h2, hR, hz with
   | [lo, hi], _, hR, hz => exact mrp_2 b o A cap c w lo hi hR hz
  by_cases h8 : zs.length ≤ 8
  ·exact mrp_few b o A cap c w zs zs.length (by omega) rfl hs hR hz
  ·exact mrp_many b o A cap c w zs (by omega) hm hs hR hz
set_option maxRecDepth 100000 in
set_option maxHeartbeats 1000000 in
theorem mr_any (zs : List Int) (hm : zs.length ≤ 1000000000000) (hF : FoldV B w) (hr : Runes zs arg) (hA : w.cell? ⟨b, o + 2, none⟩ = some (.int .u32 arg)) (hR : w.cell? ⟨b, o + 3, none⟩ = some (.slice A zs.length cap)) (hz : IntsAt w B .i32 A zs) :
  Calls Tryd.prog 61 #[.pointer (some ⟨b, o, none⟩), .int .i32 c] w fun e w' => e = .returned (.bool (posI zs arg c != -1)) ∧ ∃ q, w' = w.drewN q := by
 have h := mrp_any b o A cap arg c w zs hm hF hr hA hR hz
 have H := Lib.hid h
 clear h hz hR hA hF hr
 go_enter Tryd.func61, Tryd.ntmps61
 go_wp2_with (go_at_call 77; refine (Calls.mono H.out ?_); rintro e w1 ⟨rfl, q1, rfl⟩)
 go_ret
 exact ⟨rfl, q1, rfl⟩
end
end Go.Proofs.YtcncclglmgdinaaDoor.Mem
