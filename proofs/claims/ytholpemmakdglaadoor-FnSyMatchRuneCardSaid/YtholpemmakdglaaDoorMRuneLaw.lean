/- The statement FnSyMatchRune answers true whatever it is handed. -/
import Derived.Test.YtholpemmakdglaaDoorMRune
import Derived.Deep.QuietTactic
import Derived.BigQuiet
import Derived.LoopN
namespace Go.Proofs.YtholpemmakdglaaDoor.Mem
open Go.RowKit Fold
set_option linter.unusedVariables false
/-- The last range, of the first m ones, that has the character. -/
def wantF (zs : List Int) (c : Int) : Nat → Int
  | 0 => -1
  | m + 1 => if zs.getD (2 * m) 0 ≤ c ∧ c ≤ zs.getD (2 * m + 1) 0 then (m : Int) else wantF zs c m
theorem wantF_none (zs : List Int) (c : Int) : ∀ m, (∀ i, i < m → ¬ (zs.getD (2 * i) 0 ≤ c ∧ c ≤ zs.getD (2 * i + 1) 0)) → wantF zs c m = -1
  | 0, _ => rfl
  | m + 1, h => by simp only [wantF, if_neg (h m (by omega))]; exact wantF_none zs c m fun i hi => h i (by omega)
theorem wantF_some (zs : List Int) (c : Int) (j : Nat) (hj : zs.getD (2 * j) 0 ≤ c ∧ c ≤ zs.getD (2 * j + 1) 0) : ∀ m, j < m → (∀ i, i < m → i ≠ j → ¬ (zs.getD (2 * i) 0 ≤ c ∧ c ≤ zs.getD (2 * i + 1) 0)) → wantF zs c m = j
  | 0, h, _ => absurd h (by omega)
  | m + 1, h, ho => by
    by_cases he : m = j
    · subst he; simp only [wantF, if_pos hj]
    · simp only [wantF, if_neg (ho m (by omega) he)]
      exact wantF_some zs c j hj m (by omega) fun i hi => ho i (by omega)
theorem wantF_pos (zs : List Int) (c : Int) (hs : clsF (-1) zs = true) : wantF zs c (zs.length / 2) = posF c 0 zs := by
  have hev := clsF_even zs _ hs
  by_cases h : ∃ j, j < zs.length / 2 ∧ zs.getD (2 * j) 0 ≤ c ∧ c ≤ zs.getD (2 * j + 1) 0
  · obtain ⟨j, hj, h1, h2⟩ := h
    rw [wantF_some zs c j ⟨h1, h2⟩ _ hj, posF_some c zs (-1) 0 j hs (by omega) h1 h2]
    · omega
    · intro i hi hne hh
      rcases Nat.lt_or_gt_of_ne hne with hl | hl
      · have := clsF_apart zs (-1) hs i j hl (by omega)
        omega
      · have := clsF_apart zs (-1) hs j i hl (by omega)
        omega
  · rw [wantF_none zs c _ fun i hi hh => h ⟨i, hi, hh⟩, posF_none c zs 0 fun i hi hh => h ⟨i, by omega, hh⟩]
theorem posF_ge (c : Int) : ∀ (l : List Int) (k : Int), 0 ≤ k → -1 ≤ posF c k l
  | [], _, _ => by simp [posF]
  | [_], _, _ => by simp [posF]
  | a :: b :: l, k, h => by
    simp only [posF]
    by_cases hx : a ≤ c ∧ c ≤ b
    · rw [if_pos hx]; omega
    · rw [if_neg hx]; exact posF_ge c l (k + 1) (by omega)
section
variable (A : Option Addr) (cap : Nat) (zs : List Int) (w : World) {B : Nat}
set_option maxRecDepth 100000 in
set_option maxHeartbeats 4000000 in
theorem mrl_big (c : Int) (n : Nat) (hn : 2147483647 < n) :
    Calls Tryd.prog 5 #[.slice A n cap, .int .i32 c] w fun e w' => e = .returned (.bool true) ∧ ∃ q, w' = w.drewN q := by
  go_enter Tryd.func5, Tryd.ntmps5
  go_wp2
  go_ret
  exact ⟨rfl, 0, rfl⟩
set_option maxRecDepth 100000 in
set_option maxHeartbeats 4000000 in
theorem mrl_bad (c : Int) (hm : zs.length ≤ 2147483647) (hz : IntsAt w B .i32 A zs) (h : (okL zs && decide (zs.length ≤ 200)) = false) :
    Calls Tryd.prog 5 #[.slice A zs.length cap, .int .i32 c] w fun e w' => e = .returned (.bool true) ∧ ∃ q, w' = w.drewN q := by
  have H0 := Lib.hid (syPairs_any A cap zs w (B := B) (by omega) hz)
  clear hz
  have HK := Lib.hid h; clear h
  have tm : decide (2147483647 < (zs.length : Int)) = false := by simp; omega
  generalize zs.length = n at *
  go_enter Tryd.func5, Tryd.ntmps5
  go_wp2_with (first
    | (go_at_call 12; refine (Calls.mono H0.out ?_); rintro e w1 ⟨rfl, q, rfl⟩; rw [HK.out]))
  go_ret
  exact ⟨rfl, _, rfl⟩
set_option maxRecDepth 100000 in
set_option maxHeartbeats 4000000 in
theorem mrl_low (c : Int) (hm : zs.length ≤ 2147483647) (hz : IntsAt w B .i32 A zs) (h : (okL zs && decide (zs.length ≤ 200)) = true) (h0 : c < 0) :
    Calls Tryd.prog 5 #[.slice A zs.length cap, .int .i32 c] w fun e w' => e = .returned (.bool true) ∧ ∃ q, w' = w.drewN q := by
  have H0 := Lib.hid (syPairs_any A cap zs w (B := B) (by omega) hz)
  clear hz
  have HK := Lib.hid h; clear h
  have t0 : decide (c < 0) = true := by simpa using h0
  have tm : decide (2147483647 < (zs.length : Int)) = false := by simp; omega
  generalize zs.length = n at *
  go_enter Tryd.func5, Tryd.ntmps5
  go_wp2_with (first
    | (go_at_call 12; refine (Calls.mono H0.out ?_); rintro e w1 ⟨rfl, q, rfl⟩; rw [HK.out]))
  go_ret
  exact ⟨rfl, _, rfl⟩
set_option maxRecDepth 100000 in
set_option maxHeartbeats 4000000 in
theorem mrl_high (c : Int) (hm : zs.length ≤ 2147483647) (hz : IntsAt w B .i32 A zs) (h : (okL zs && decide (zs.length ≤ 200)) = true) (h0 : 0 ≤ c) (h1 : 1114111 < c) :
    Calls Tryd.prog 5 #[.slice A zs.length cap, .int .i32 c] w fun e w' => e = .returned (.bool true) ∧ ∃ q, w' = w.drewN q := by
  have H0 := Lib.hid (syPairs_any A cap zs w (B := B) (by omega) hz)
  clear hz
  have HK := Lib.hid h; clear h
  have t0 : decide (c < 0) = false := by simpa using h0
  have t1 : decide (1114111 < c) = true := by simpa using h1
  have tm : decide (2147483647 < (zs.length : Int)) = false := by simp; omega
  generalize zs.length = n at *
  go_enter Tryd.func5, Tryd.ntmps5
  go_wp2_with (first
    | (go_at_call 12; refine (Calls.mono H0.out ?_); rintro e w1 ⟨rfl, q, rfl⟩; rw [HK.out]))
  go_ret
  exact ⟨rfl, _, rfl⟩
set_option maxRecDepth 100000 in
set_option maxHeartbeats 4000000 in
theorem mrl_cls (c : Int) (hm : zs.length ≤ 2147483647) (hz : IntsAt w B .i32 A zs) (h : (okL zs && decide (zs.length ≤ 200)) = true) (h0 : 0 ≤ c) (h1 : c ≤ 1114111) (hn1 : zs.length ≠ 1) (hc : clsF (-1) zs = false) :
    Calls Tryd.prog 5 #[.slice A zs.length cap, .int .i32 c] w fun e w' => e = .returned (.bool true) ∧ ∃ q, w' = w.drewN q := by
  have H0 := Lib.hid (syPairs_any A cap zs w (B := B) (by omega) hz)
  have HR := fun q => Lib.hid (ReClass_any A cap zs (w.drewN q) (B := B) (by omega) (hz.drewN q))
  have HC := Lib.hid hc; clear hc
  clear hz
  have HK := Lib.hid h; clear h
  have t0 : decide (c < 0) = false := by simpa using h0
  have t1 : decide (1114111 < c) = false := by simpa using h1
  have t2 : ((zs.length : Int) != 1) = true := by simp; omega
  have tm : decide (2147483647 < (zs.length : Int)) = false := by simp; omega
  generalize zs.length = n at *
  go_enter Tryd.func5, Tryd.ntmps5
  go_wp2_with (first
    | (go_at_call 12; refine (Calls.mono H0.out ?_); rintro e w1 ⟨rfl, q, rfl⟩; rw [HK.out])
    | (go_at_call 13; refine (Calls.mono (HR _).out ?_); rintro e w2 ⟨rfl, q2, rfl⟩; rw [HC.out]))
  go_ret
  exact ⟨rfl, _, rfl⟩
theorem below_ex {w w' : World} (h : ∃ q, w' = w.drewN q) : Below w.heap.size w w' := by
  obtain ⟨q, rfl⟩ := h
  exact below_drewN (Below.refl _ _) q
set_option maxRecDepth 100000 in
set_option maxHeartbeats 4000000 in
theorem mrl_one (c r : Int) (hz : IntsAt w B .i32 A [r]) (hF : FoldV B w) (hB : B ≤ w.heap.size) (h : (okL [r] && decide (([r] : List Int).length ≤ 200)) = true) (h0 : 0 ≤ c) (h1 : c ≤ 1114111) :
    Calls Tryd.prog 5 #[.slice A 1 cap, .int .i32 c] w fun e w' => e = .returned (.bool true) ∧ Below w.heap.size w w' := by
  have hr := okL_at (zs := [r]) (by simp only [Bool.and_eq_true] at h; exact h.1) 0 (by simp)
  simp only [List.getD_cons_zero] at hr
  obtain ⟨pc, hpc⟩ := per_any c h0 h1
  obtain ⟨pr, hpr⟩ := per_any r hr.1 hr.2
  have H0 := Lib.hid (syPairs_any A cap [r] w (B := B) (by simp) hz)
  have HF := Lib.hid hF; clear hF
  have HZ := Lib.hid hz; clear hz
  have HK := Lib.hid h; clear h
  have t0 : decide (c < 0) = false := by simpa using h0
  have t1 : decide (1114111 < c) = false := by simpa using h1
  have HFo := fun (w2 : World) (h : Below w.heap.size w w2) => Lib.hid (ReFolds_any c r w2 (HF.out.below h hB) hpc)
  have HZo := fun (w2 : World) (h : Below w.heap.size w w2) => Lib.hid (HZ.out.below h hB)
  obtain ⟨ib, hib⟩ : ∃ ib, inOrb c r = ib := ⟨_, rfl⟩
  obtain ⟨b, o, rfl, hbB, hcell⟩ := HZ.out (by simp)
  have hc0 : w.cell? ⟨b, o, none⟩ = some (.int .i32 r) := by simpa using hcell 0 (by simp)
  clear hcell
  have C1 := fun (w1 : World) (h : Below w.heap.size w w1) => Lib.hid (show ((w1.alloc (.cells #[.int .i64 7, .int .i64 0, .int .i64 1, .slice (some ⟨b, o, none⟩) 1 cap] 31)).cell? ⟨b, o, none⟩ = some (.int .i32 r)) ∧ Below w.heap.size w (w1.alloc (.cells #[.int .i64 7, .int .i64 0, .int .i64 1, .slice (some ⟨b, o, none⟩) 1 cap] 31)) from by
    have hb2 := h.alloc h.size (.cells #[.int .i64 7, .int .i64 0, .int .i64 1, .slice (some ⟨b, o, none⟩) 1 cap] 31)
    exact ⟨by rw [hb2.cell (show b < w.heap.size by omega)]; exact hc0, hb2⟩)
  have hsame : inOrb r c = ib := by rw [← hib]; exact inOrb_comm hpr hpc
  have hpos : posI [r] 1 c = if ib = true then 0 else -1 := by
    have hx : (c = r ∨ ((1 : Int) = 1 ∧ inOrb r c = true)) ↔ ib = true := by
      rw [hsame]
      constructor
      · rintro (rfl | h)
        · rw [← hib]; exact inOrb_at hpc (j := 0) (by have := hpc.pos; omega) rfl
        · exact h.2
      · intro h; exact Or.inr ⟨rfl, h⟩
    show (if c = r ∨ ((1 : Int) = 1 ∧ inOrb r c = true) then (0 : Int) else -1) = _
    by_cases hy : ib = true
    · rw [if_pos (hx.2 hy), if_pos hy]
    · rw [if_neg (fun x => hy (hx.1 x)), if_neg hy]
  have hG : Given [r] 1 := Or.inl ⟨r, pr, rfl, hpr, hr.1, hr.2, rfl⟩
  have C3 := fun (w2 : World) (h : Below w.heap.size w w2) => Lib.hid (syMR_any (some ⟨b, o, none⟩) cap [r] 1 w2 (B := B) c (by simp) hG (HF.out.below h hB) (HZ.out.below h hB) (by have := h.size; omega))
  have C4 := fun (w2 : World) (h : Below w.heap.size w w2) => Lib.hid (syMRP_any (some ⟨b, o, none⟩) cap [r] 1 w2 (B := B) c (by simp) hG (HF.out.below h hB) (HZ.out.below h hB) (by have := h.size; omega))
  have HPOS := Lib.hid hpos
  clear hpos hsame hG
  cases ib
  all_goals
    go_enter Tryd.func5, Tryd.ntmps5
    go_wp2_with (first
      | (go_at_call 12; refine (Calls.mono H0.out ?_); rintro e w1 ⟨rfl, hq⟩; rw [HK.out]; have HB1 := Lib.hid (below_ex hq); clear hq; have C2 := (C1 w1 HB1.out).out.1)
      | (go_at_call 14; refine (Calls.mono (HFo _ (C1 w1 HB1.out).out.2).out ?_); rintro e w2 ⟨rfl, q2, rfl⟩; rw [hib]))
    refine wp_loop_rounds 1 ?_
    have HB2 := Lib.hid (below_drewN (C1 w1 HB1.out).out.2 q2)
    iterate 1 (rw [rounds_succ]; go_wp2_with (first
      | (go_at_call 15; refine (Calls.mono (C3 _ HB2.out).out ?_); rintro e w3 ⟨rfl, hb3⟩; rw [HPOS.out]; simp only [if_true, Bool.false_eq_true, if_false]; have k0 := (hb3.cell (p := ⟨w1.heap.size, 0, none⟩) (by simp)).trans (show _ = some (Value.int .i64 7) by simp); have k1 := (hb3.cell (p := ⟨w1.heap.size, 1, none⟩) (by simp)).trans (show _ = some (Value.int .i64 0) by simp); have k2 := (hb3.cell (p := ⟨w1.heap.size, 2, none⟩) (by simp)).trans (show _ = some (Value.int .i64 1) by simp); have k3 := (hb3.cell (p := ⟨w1.heap.size, 3, none⟩) (by simp)).trans (show _ = some (Value.slice (some ⟨b, o, none⟩) 1 cap) by simp); have HB3 := Lib.hid (HB2.out.trans (hb3.mono HB2.out.size)); clear hb3)
      | (go_at_call 16; refine (Calls.mono (C4 _ HB3.out).out ?_); rintro e w4 ⟨rfl, hb4⟩; rw [HPOS.out]; simp only [if_true, Bool.false_eq_true, if_false]; have HB4 := Lib.hid (HB3.out.trans (hb4.mono HB3.out.size)); clear hb4)))
    go_ret
    exact ⟨rfl, HB4.out⟩
set_option maxRecDepth 100000 in
set_option maxHeartbeats 4000000 in
theorem mrl_many (c : Int) (hm : zs.length ≤ 1000000) (hz : IntsAt w B .i32 A zs) (hF : FoldV B w) (hB : B ≤ w.heap.size) (h : (okL zs && decide (zs.length ≤ 200)) = true) (h0 : 0 ≤ c) (h1 : c ≤ 1114111) (hn1 : zs.length ≠ 1) (hc : clsF (-1) zs = true) :
    Calls Tryd.prog 5 #[.slice A zs.length cap, .int .i32 c] w fun e w' => e = .returned (.bool true) ∧ Below w.heap.size w w' := by
  have hev := clsF_even zs _ hc
  have hG : Given zs 0 := Or.inr ⟨hc, rfl⟩
  have H0 := Lib.hid (syPairs_any A cap zs w (B := B) (by omega) hz)
  have HR := fun (w2 : World) (h : Below w.heap.size w w2) => Lib.hid (ReClass_any A cap zs w2 (B := B) (by omega) (hz.below h hB))
  have HZo := fun (w2 : World) (h : Below w.heap.size w w2) => Lib.hid (hz.below h hB)
  have C3 := fun (w2 : World) (h : Below w.heap.size w w2) => Lib.hid (syMR_any A cap zs 0 w2 (B := B) c hm hG (hF.below h hB) (hz.below h hB) (by have := h.size; omega))
  have C4 := fun (w2 : World) (h : Below w.heap.size w w2) => Lib.hid (syMRP_any A cap zs 0 w2 (B := B) c hm hG (hF.below h hB) (hz.below h hB) (by have := h.size; omega))
  have hpos := posI_cls c zs 0 hc
  obtain ⟨ps, hps⟩ : ∃ ps, posF c 0 zs = ps := ⟨_, rfl⟩
  rw [hps] at hpos
  have hwant := wantF_pos zs c hc
  rw [hps] at hwant
  have hge := posF_ge c zs 0 (by omega)
  rw [hps] at hge
  have HPOS := Lib.hid hpos
  have HW := Lib.hid hwant
  have HG := Lib.hid hge
  have HEV := Lib.hid hev
  have HK := Lib.hid h; clear h
  have HC := Lib.hid hc
  clear hz hc hF hpos hwant hge hps hev hG
  have t0 : decide (c < 0) = false := by simpa using h0
  have t1 : decide (1114111 < c) = false := by simpa using h1
  have t2 : ((zs.length : Int) != 1) = true := by simp; omega
  have t3 : ((zs.length : Int) == 1) = false := by simp; omega
  have tm : decide (2147483647 < (zs.length : Int)) = false := by simp; omega
  obtain ⟨n, hn⟩ : ∃ n, zs.length = n := ⟨_, rfl⟩
  rw [hn] at hm hn1 H0 HR C3 C4 HW HEV HK t2 t3 tm
  rw [hn]
  have HN := Lib.hid hn; clear hn
  go_enter Tryd.func5, Tryd.ntmps5
  go_wp2_with (first
    | (go_at_call 12; refine (Calls.mono H0.out ?_); rintro e w1 ⟨rfl, hq⟩; rw [HK.out]; have HB1 := Lib.hid (below_ex hq); clear hq)
    | (go_at_call 13; refine (Calls.mono (HR _ HB1.out).out ?_); rintro e w2 ⟨rfl, hq⟩; rw [HC.out]; have HB2 := Lib.hid (HB1.out.trans ((below_ex hq).mono HB1.out.size)); clear hq; have HB3 := Lib.hid (HB2.out.alloc HB2.out.size (.cells #[.int .i64 7, .int .i64 0, .int .i64 0, .slice A n cap] 31))))
  go_loopg [6, 7] (n + 1) (fun g s6 s7 wx => ∃ k m : Nat, k ≤ n ∧ Hid (k = 2 * m) ∧ n - k < g ∧ s7 = .int .i64 k ∧ s6 = .int .i64 (wantF zs c m) ∧ wx = w2.alloc (.cells #[.int .i64 7, .int .i64 0, .int .i64 0, .slice A n cap] 31))
  case atStart => exact ⟨0, 0, by omega, Lib.hid rfl, by omega, rfl, rfl, rfl⟩
  case round =>
    obtain ⟨k, m, hk, HM, hg, rfl, rfl, rfl⟩ := hrel
    obtain ⟨g', rfl⟩ : ∃ g', gk = g' + 1 := ⟨gk - 1, by omega⟩
    by_cases hlt : k + 1 < n
    · obtain ⟨b, o, hA, hb, hcell⟩ := (HZo _ HB3.out).out (by rw [HN.out]; omega)
      subst hA
      have c0 := hcell k (by rw [HN.out]; omega)
      have c1 := hcell (k + 1) (by rw [HN.out]; omega)
      obtain ⟨x, hx⟩ : ∃ x, zs.getD k 0 = x := ⟨_, rfl⟩
      obtain ⟨y, hy⟩ : ∃ x, zs.getD (k + 1) 0 = x := ⟨_, rfl⟩
      rw [hx] at c0
      rw [hy] at c1
      have hwm : wantF zs c (m + 1) = if x ≤ c ∧ c ≤ y then (m : Int) else wantF zs c m := by
        rw [← hx, ← hy, HM.out]; rfl
      have HWM := Lib.hid hwm
      clear hcell hx hy hwm
      have hin : (k : Int) < (n : Int) := by omega
      have hin1 : (k : Int) + 1 < (n : Int) := by omega
      have hq : (k : Int) / 2 = (m : Int) := by have := HM.out; omega
      by_cases hx1 : x ≤ c
      · have d1 : decide (x ≤ c) = true := by simpa using hx1
        by_cases hx2 : c ≤ y
        · have d2 : decide (c ≤ y) = true := by simpa using hx2
          go_wp2
          go_roundg g'
          case rel => exact ⟨k + 2, m + 1, by omega, Lib.hid (by have := HM.out; omega), by omega, by go_num, by rw [HWM.out, if_pos ⟨hx1, hx2⟩], rfl⟩
          case measure => omega
        · have d2 : decide (c ≤ y) = false := by simpa using hx2
          go_wp2
          go_roundg g'
          case rel => exact ⟨k + 2, m + 1, by omega, Lib.hid (by have := HM.out; omega), by omega, by go_num, by rw [HWM.out, if_neg (by omega)], rfl⟩
          case measure => omega
      · have d1 : decide (x ≤ c) = false := by simpa using hx1
        go_wp2
        go_roundg g'
        case rel => exact ⟨k + 2, m + 1, by omega, Lib.hid (by have := HM.out; omega), by omega, by go_num, by rw [HWM.out, if_neg (by omega)], rfl⟩
        case measure => omega
    · have hps : wantF zs c m = ps := by
        rw [← HW.out]; congr 1; have := HM.out; have := HEV.out; omega
      have HPS := Lib.hid hps
      rw [hps]
      clear hps
      have HD := Lib.hid (show (ps != -1) = decide (0 ≤ ps) by
        have := HG.out
        by_cases hp : 0 ≤ ps <;> simp [hp] <;> omega)
      go_wp2_with (first
        | (go_at_call 15; refine (Calls.mono (C3 _ HB3.out).out ?_); rintro e w3 ⟨rfl, hb3⟩; rw [HPOS.out, HD.out]; have k0 := (hb3.cell (p := ⟨w2.heap.size, 0, none⟩) (by simp)).trans (show _ = some (Value.int .i64 7) by simp); have k1 := (hb3.cell (p := ⟨w2.heap.size, 1, none⟩) (by simp)).trans (show _ = some (Value.int .i64 0) by simp); have k2 := (hb3.cell (p := ⟨w2.heap.size, 2, none⟩) (by simp)).trans (show _ = some (Value.int .i64 0) by simp); have k3 := (hb3.cell (p := ⟨w2.heap.size, 3, none⟩) (by simp)).trans (show _ = some (Value.slice A n cap) by simp); have HB4 := Lib.hid (HB3.out.trans (hb3.mono HB3.out.size)); clear hb3)
        | (go_at_call 16; refine (Calls.mono (C4 _ HB4.out).out ?_); rintro e w4 ⟨rfl, hb4⟩; rw [HPOS.out]; have HB5 := Lib.hid (HB4.out.trans (hb4.mono HB4.out.size)); clear hb4))
      go_ret
      exact ⟨rfl, HB5.out⟩
theorem mrl_any (c : Int) (hF : FoldV w.heap.size w) (hz : IntsAt w w.heap.size .i32 A zs) :
    Calls Tryd.prog 5 #[.slice A zs.length cap, .int .i32 c] w fun e w' => e = .returned (.bool true) ∧ Below w.heap.size w w' := by
  by_cases hb : 2147483647 < zs.length
  · exact (mrl_big A cap w c _ hb).mono fun e w' ⟨h, hq⟩ => ⟨h, below_ex hq⟩
  by_cases hk : (okL zs && decide (zs.length ≤ 200)) = true
  · by_cases h0 : c < 0
    · exact (mrl_low A cap zs w c (by omega) hz hk h0).mono fun e w' ⟨h, hq⟩ => ⟨h, below_ex hq⟩
    by_cases h1 : 1114111 < c
    · exact (mrl_high A cap zs w c (by omega) hz hk (by omega) h1).mono fun e w' ⟨h, hq⟩ => ⟨h, below_ex hq⟩
    have hl : zs.length ≤ 200 := by simp only [Bool.and_eq_true, decide_eq_true_eq] at hk; exact hk.2
    by_cases hn : zs.length = 1
    · obtain ⟨r, rfl⟩ := List.length_eq_one_iff.1 hn
      exact mrl_one A cap w c r hz hF (Nat.le_refl _) hk (by omega) (by omega)
    · by_cases hc : clsF (-1) zs = true
      · exact mrl_many A cap zs w c (by omega) hz hF (Nat.le_refl _) hk (by omega) (by omega) hn hc
      · exact (mrl_cls A cap zs w c (by omega) hz hk (by omega) (by omega) hn (by simpa using hc)).mono fun e w' ⟨h, hq⟩ => ⟨h, below_ex hq⟩
  · exact (mrl_bad A cap zs w c (by omega) hz (by simpa using hk)).mono fun e w' ⟨h, hq⟩ => ⟨h, below_ex hq⟩
end
end Go.Proofs.YtholpemmakdglaaDoor.Mem
