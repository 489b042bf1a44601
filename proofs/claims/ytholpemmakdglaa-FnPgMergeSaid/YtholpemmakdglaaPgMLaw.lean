/- The statement FnPgMerge answers true whatever it is handed. -/
import Derived.Test.YtholpemmakdglaaPgM
import Derived.Test.YtholpemmakdglaaReMerged
import Derived.Deep.QuietTactic
import Derived.BigQuiet
namespace Go.Proofs.Ytholpemmakdglaa.Mem
open Go.RowKit
set_option linter.unusedVariables false
section
variable (cl cr : Nat) (Al Ar : Option Addr) (ls rs : List Int) (lp rp : Int) (w : World)
set_option maxRecDepth 100000 in
set_option maxHeartbeats 4000000 in
theorem pgl_big1 (h0 : 2147483647 < ls.length) :
    Calls Try.prog 6 #[.slice Al ls.length cl, .slice Ar rs.length cr, .int .u32 lp, .int .u32 rp] w fun e w' => e = .returned (.bool true) ∧ ∃ q, w' = w.drewN q := by
  have t0 : decide (2147483647 < (ls.length : Int)) = true := by simp; omega
  go_enter Try.func6, Try.ntmps6
  go_wp2
  go_ret
  exact ⟨rfl, 0, rfl⟩
set_option maxRecDepth 100000 in
set_option maxHeartbeats 4000000 in
theorem pgl_big2 (h0 : ls.length ≤ 2147483647) (h1 : 2147483647 < rs.length) :
    Calls Try.prog 6 #[.slice Al ls.length cl, .slice Ar rs.length cr, .int .u32 lp, .int .u32 rp] w fun e w' => e = .returned (.bool true) ∧ ∃ q, w' = w.drewN q := by
  have t0 : decide (2147483647 < (ls.length : Int)) = false := by simp; omega
  have t1 : decide (2147483647 < (rs.length : Int)) = true := by simp; omega
  go_enter Try.func6, Try.ntmps6
  go_wp2
  go_ret
  exact ⟨rfl, 0, rfl⟩
set_option maxRecDepth 100000 in
set_option maxHeartbeats 4000000 in
theorem pgl_l100 (h0 : ls.length ≤ 2147483647) (h1 : rs.length ≤ 2147483647) (h2 : 100 < ls.length) :
    Calls Try.prog 6 #[.slice Al ls.length cl, .slice Ar rs.length cr, .int .u32 lp, .int .u32 rp] w fun e w' => e = .returned (.bool true) ∧ ∃ q, w' = w.drewN q := by
  have t0 : decide (2147483647 < (ls.length : Int)) = false := by simp; omega
  have t1 : decide (2147483647 < (rs.length : Int)) = false := by simp; omega
  have t2 : decide (100 < (ls.length : Int)) = true := by simp; omega
  go_enter Try.func6, Try.ntmps6
  go_wp2
  go_ret
  exact ⟨rfl, 0, rfl⟩
set_option maxRecDepth 100000 in
set_option maxHeartbeats 4000000 in
theorem pgl_r100 (h0 : ls.length ≤ 2147483647) (h1 : rs.length ≤ 2147483647) (h2 : ls.length ≤ 100) (h3 : 100 < rs.length) :
    Calls Try.prog 6 #[.slice Al ls.length cl, .slice Ar rs.length cr, .int .u32 lp, .int .u32 rp] w fun e w' => e = .returned (.bool true) ∧ ∃ q, w' = w.drewN q := by
  have t0 : decide (2147483647 < (ls.length : Int)) = false := by simp; omega
  have t1 : decide (2147483647 < (rs.length : Int)) = false := by simp; omega
  have t2 : decide (100 < (ls.length : Int)) = false := by simp; omega
  have t3 : decide (100 < (rs.length : Int)) = true := by simp; omega
  go_enter Try.func6, Try.ntmps6
  go_wp2
  go_ret
  exact ⟨rfl, 0, rfl⟩
set_option maxRecDepth 100000 in
set_option maxHeartbeats 4000000 in
theorem pgl_lpc (h2 : ls.length ≤ 100) (h3 : rs.length ≤ 100) (h4 : lp = 4294967295) :
    Calls Try.prog 6 #[.slice Al ls.length cl, .slice Ar rs.length cr, .int .u32 lp, .int .u32 rp] w fun e w' => e = .returned (.bool true) ∧ ∃ q, w' = w.drewN q := by
  have t0 : decide (2147483647 < (ls.length : Int)) = false := by simp; omega
  have t1 : decide (2147483647 < (rs.length : Int)) = false := by simp; omega
  have t2 : decide (100 < (ls.length : Int)) = false := by simp; omega
  have t3 : decide (100 < (rs.length : Int)) = false := by simp; omega
  have t4 : (lp == 4294967295) = true := by simpa using h4
  clear h4
  go_enter Try.func6, Try.ntmps6
  go_wp2
  go_ret
  exact ⟨rfl, 0, rfl⟩
set_option maxRecDepth 100000 in
set_option maxHeartbeats 4000000 in
theorem pgl_rpc (h2 : ls.length ≤ 100) (h3 : rs.length ≤ 100) (h4 : lp ≠ 4294967295) (h5 : rp = 4294967295) :
    Calls Try.prog 6 #[.slice Al ls.length cl, .slice Ar rs.length cr, .int .u32 lp, .int .u32 rp] w fun e w' => e = .returned (.bool true) ∧ ∃ q, w' = w.drewN q := by
  have t0 : decide (2147483647 < (ls.length : Int)) = false := by simp; omega
  have t1 : decide (2147483647 < (rs.length : Int)) = false := by simp; omega
  have t2 : decide (100 < (ls.length : Int)) = false := by simp; omega
  have t3 : decide (100 < (rs.length : Int)) = false := by simp; omega
  have t4 : (lp == 4294967295) = false := by simpa using h4
  have t5 : (rp == 4294967295) = true := by simpa using h5
  clear h4 h5
  go_enter Try.func6, Try.ntmps6
  go_wp2
  go_ret
  exact ⟨rfl, 0, rfl⟩
set_option maxRecDepth 100000 in
set_option maxHeartbeats 4000000 in
theorem pgl_lcl (h2 : ls.length ≤ 100) (h3 : rs.length ≤ 100) (h4 : lp ≠ 4294967295) (h5 : rp ≠ 4294967295) (zl : IntsAt w w.heap.size .i32 Al ls) (kl : clsF (-1) ls = false) :
    Calls Try.prog 6 #[.slice Al ls.length cl, .slice Ar rs.length cr, .int .u32 lp, .int .u32 rp] w fun e w' => e = .returned (.bool true) ∧ ∃ q, w' = w.drewN q := by
  have t0 : decide (2147483647 < (ls.length : Int)) = false := by simp; omega
  have t1 : decide (2147483647 < (rs.length : Int)) = false := by simp; omega
  have t2 : decide (100 < (ls.length : Int)) = false := by simp; omega
  have t3 : decide (100 < (rs.length : Int)) = false := by simp; omega
  have t4 : (lp == 4294967295) = false := by simpa using h4
  have t5 : (rp == 4294967295) = false := by simpa using h5
  have P1 := Lib.hid (ReClass_any Al cl ls w (by omega) zl)
  have KL := Lib.hid kl
  clear zl kl
  clear h4 h5
  go_enter Try.func6, Try.ntmps6
  go_wp2_with (go_at_call 13; refine (Calls.mono P1.out ?_); rintro e w1 ⟨rfl, q1, rfl⟩; rw [KL.out])
  go_ret
  exact ⟨rfl, _, rfl⟩
set_option maxRecDepth 100000 in
set_option maxHeartbeats 4000000 in
theorem pgl_rcl (h2 : ls.length ≤ 100) (h3 : rs.length ≤ 100) (h4 : lp ≠ 4294967295) (h5 : rp ≠ 4294967295) (zl : IntsAt w w.heap.size .i32 Al ls) (zr : IntsAt w w.heap.size .i32 Ar rs) (kl : clsF (-1) ls = true) (kr : clsF (-1) rs = false) :
    Calls Try.prog 6 #[.slice Al ls.length cl, .slice Ar rs.length cr, .int .u32 lp, .int .u32 rp] w fun e w' => e = .returned (.bool true) ∧ ∃ q, w' = w.drewN q := by
  have t0 : decide (2147483647 < (ls.length : Int)) = false := by simp; omega
  have t1 : decide (2147483647 < (rs.length : Int)) = false := by simp; omega
  have t2 : decide (100 < (ls.length : Int)) = false := by simp; omega
  have t3 : decide (100 < (rs.length : Int)) = false := by simp; omega
  have t4 : (lp == 4294967295) = false := by simpa using h4
  have t5 : (rp == 4294967295) = false := by simpa using h5
  have P1 := Lib.hid (ReClass_any Al cl ls w (by omega) zl)
  have KL := Lib.hid kl
  have P2 := fun (q : Nat) => Lib.hid (ReClass_any Ar cr rs (w.drewN q) (by omega) (zr.drewN q))
  have KR := Lib.hid kr
  clear zl kl zr kr
  clear h4 h5
  go_enter Try.func6, Try.ntmps6
  go_wp2_with (first
    | (go_at_call_of 13 (Value.slice Al ls.length cl); refine (Calls.mono P1.out ?_); rintro e w1 ⟨rfl, q1, rfl⟩; rw [KL.out])
    | (go_at_call 13; refine (Calls.mono (P2 _).out ?_); rintro e w2 ⟨rfl, q2, rfl⟩; rw [KR.out]))
  go_ret
  exact ⟨rfl, _, rfl⟩
theorem spM_len (lp rp : Int) : ∀ (f : Nat) (M N l r : List Int), (spM lp rp f M N l r).1.length ≤ M.length + l.length + r.length ∧ (spM lp rp f M N l r).2.length ≤ N.length + l.length + r.length
  | 0, M, N, l, r => by simp only [spM]; omega
  | f + 1, M, N, l, r => by
    unfold spM
    split
    · rename_i a b l'
      have := spM_len lp rp f (M ++ [a, b]) (N ++ [lp]) l' []
      simp only [List.length_append, List.length_cons, List.length_nil] at this ⊢
      omega
    · rename_i c d r'
      have := spM_len lp rp f (M ++ [c, d]) (N ++ [rp]) [] r'
      simp only [List.length_append, List.length_cons, List.length_nil] at this ⊢
      omega
    · rename_i a b l' c d r'
      split
      · have := spM_len lp rp f (M ++ [a, b]) (N ++ [lp]) l' (c :: d :: r')
        simp only [List.length_append, List.length_cons, List.length_nil] at this ⊢
        omega
      · have := spM_len lp rp f (M ++ [c, d]) (N ++ [rp]) (a :: b :: l') r'
        simp only [List.length_append, List.length_cons, List.length_nil] at this ⊢
        omega
    · exact ⟨by show M.length ≤ _; omega, by show N.length ≤ _; omega⟩
theorem ints_at2 {q : World} {b : Nat} {x y : Int} {t : TypeId} {fr : Nat × Nat} {B : Nat} (h : q.heap[b]? = some (.cells #[.int .i32 x, .int .i32 y] t fr)) (hb : b < B) : IntsAt q B .i32 (some ⟨b, 0, none⟩) [x, y] := fun _ => by
  refine ⟨b, 0, rfl, hb, fun j hj => ?_⟩
  match j, hj with
  | 0, _ => simp [World.cell?, h]
  | 1, _ => simp [World.cell?, h]
set_option maxRecDepth 100000 in
set_option maxHeartbeats 4000000 in
theorem pgl_main (h2 : ls.length ≤ 100) (h3 : rs.length ≤ 100) (h4 : lp ≠ 4294967295) (h5 : rp ≠ 4294967295) (zl : IntsAt w w.heap.size .i32 Al ls) (zr : IntsAt w w.heap.size .i32 Ar rs) (kl : clsF (-1) ls = true) (kr : clsF (-1) rs = true) (hcl : ls.length ≤ cl) (hcr : rs.length ≤ cr) :
    Calls Try.prog 6 #[.slice Al ls.length cl, .slice Ar rs.length cr, .int .u32 lp, .int .u32 rp] w fun e w' => e = .returned (.bool true) ∧ Below w.heap.size w w' := by
  have t0 : decide (2147483647 < (ls.length : Int)) = false := by simp; omega
  have t1 : decide (2147483647 < (rs.length : Int)) = false := by simp; omega
  have t2 : decide (100 < (ls.length : Int)) = false := by simp; omega
  have t3 : decide (100 < (rs.length : Int)) = false := by simp; omega
  have t4 : (lp == 4294967295) = false := by simpa using h4
  have t5 : (rp == 4294967295) = false := by simpa using h5
  have P1 := Lib.hid (ReClass_any Al cl ls w (by omega) zl)
  have KL := Lib.hid kl
  have P2 := fun (q : Nat) => Lib.hid (ReClass_any Ar cr rs (w.drewN q) (by omega) (zr.drewN q))
  have KR := Lib.hid kr
  have hlaw := merge_law lp rp (ls.length + rs.length) [] [] ls rs rfl rfl kl kr (Nat.le_refl _)
  have el := clsF_even ls _ kl
  have er := clsF_even rs _ kr
  have C1 := fun (q : Nat) => Lib.hid (pgmerge_any cl cr Al Ar ls rs lp rp (w.drewN q) (B := w.heap.size) (Nat.le_refl _) (zl.drewN q) (zr.drewN q) kl kr (by omega) (by omega) h4 h5)
  have C2 := fun (w2 : World) (hb : Below w.heap.size w w2) => Lib.hid (remerged_any cl cr Al Ar ls rs lp rp w2 ((zl.below hb (Nat.le_refl _)).more hb.size) ((zr.below hb (Nat.le_refl _)).more hb.size) el er (by omega) (by omega) hcl hcr)
  have C3 := fun (w2 : World) => Lib.hid (pgmerge_any 2 2 (some ⟨w2.heap.size, 0, none⟩) (some ⟨w2.heap.size + 1, 0, none⟩) [97, 97] [98, 98] 1 2 ((w2.alloc (.cells #[.int .i32 97, .int .i32 97] 21)).alloc (.cells #[.int .i32 98, .int .i32 98] 21)) (B := w2.heap.size + 2) (by simp) (ints_at2 (blk_old (blk_new w2 _) _) (by omega)) (ints_at2 (by have := blk_new (w2.alloc (.cells #[.int .i32 97, .int .i32 97] 21)) (.cells #[.int .i32 98, .int .i32 98] 21); simpa using this) (by omega)) rfl rfl (by simp) (by simp) (by omega) (by omega))
  have G3 : goM 1 2 (([97, 97] : List Int).length + ([98, 98] : List Int).length) [] [] [97, 97] [98, 98] = some ([97, 97, 98, 98], [1, 2]) := by decide
  have HG3 := Lib.hid G3
  obtain ⟨MN, hMN⟩ : ∃ x, spM lp rp (ls.length + rs.length) [] [] ls rs = x := ⟨_, rfl⟩
  obtain ⟨M, N⟩ := MN
  have hlen := spM_len lp rp (ls.length + rs.length) [] [] ls rs
  rw [hMN] at hlaw hlen
  have hlM : M.length ≤ 200 := by have := hlen.1; simp only [List.length_nil] at this; omega
  have hlN : N.length ≤ 200 := by have := hlen.2; simp only [List.length_nil] at this; omega
  clear hlen
  have HS := Lib.hid hMN
  clear zl zr kl kr G3 hMN h4 h5 el er
  by_cases hap : clsF (-1) M = true
  · rw [if_pos hap] at hlaw
    have HL := Lib.hid hlaw
    have HAP := Lib.hid hap
    clear hlaw hap
    go_enter Try.func6, Try.ntmps6
    go_wp2_with (first
      | (go_at_call_of 13 (Value.slice Al ls.length cl); refine (Calls.mono P1.out ?_); rintro e w1 ⟨rfl, q1, rfl⟩; rw [KL.out])
      | (go_at_call 13; refine (Calls.mono (P2 _).out ?_); rintro e w2 ⟨rfl, q2, rfl⟩; rw [KR.out])
      | (go_at_call_of 14 (Value.slice Al ls.length cl); refine (Calls.mono (C1 _).out ?_); rintro e w3 ⟨vM, vN, ok, rfl, hb3, hp3⟩; rw [HL.out] at hp3; obtain ⟨rfl, A1, k1, A2, k2, rfl, rfl, hz1, hz2⟩ := hp3; have HZ1 := Lib.hid hz1; have HZ2 := Lib.hid hz2; have HB3 := Lib.hid (show Below w.heap.size w w3 from (below_drewN (Below.refl w.heap.size w) _).trans hb3); clear hz1 hz2 hb3)
      | (go_at_call 15; refine (Calls.mono (C2 _ HB3.out).out ?_); rw [HS.out]; rintro e w4 ⟨A3, k3, A4, k4, rfl, hb4, hz3, hz4⟩; rw [HAP.out]; have HZ3 := Lib.hid hz3; have HZ4 := Lib.hid hz4; have HB4 := Lib.hid hb4; clear hz3 hz4 hb4)
      | (go_at_call 14; refine (Calls.mono (C3 w4).out ?_); rintro e w5 ⟨vM5, vN5, ok5, rfl, hb5, hp5⟩; rw [HG3.out] at hp5; obtain ⟨rfl, -⟩ := hp5; have HB5 := Lib.hid (show Below w4.heap.size w4 w5 from (((Below.refl _ w4).alloc (Nat.le_refl _) _).alloc (by simp) _).trans (hb5.mono (by simp; omega))); clear hb5))
    have D1 := Lib.hid (show IntsAt w5 w3.heap.size .i32 A1 M from ((HZ1.out.below HB4.out (Nat.le_refl _)).below HB5.out HB4.out.size))
    have D2 := Lib.hid (show IntsAt w5 w3.heap.size .u32 A2 N from ((HZ2.out.below HB4.out (Nat.le_refl _)).below HB5.out HB4.out.size))
    have D3 := Lib.hid (show IntsAt w5 w4.heap.size .i32 A3 M from HZ3.out.below HB5.out (Nat.le_refl _))
    have D4 := Lib.hid (show IntsAt w5 w4.heap.size .u32 A4 N from HZ4.out.below HB5.out (Nat.le_refl _))
    have HBW := Lib.hid ((HB3.out.trans (HB4.out.mono HB3.out.size)).trans (HB5.out.mono (Nat.le_trans HB3.out.size HB4.out.size)))
    obtain ⟨m, hm⟩ : ∃ m, M.length = m := ⟨_, rfl⟩
    obtain ⟨n, hn⟩ : ∃ n, N.length = n := ⟨_, rfl⟩
    rw [hm] at hlM
    rw [hn] at hlN
    rw [hm, hn]
    have HMM := Lib.hid hm
    have HNN := Lib.hid hn
    clear hm hn
    go_loopg [102, 18] (m + 1) (fun gk s102 s18 wx => ∃ i q : Nat, i ≤ m ∧ m - i < gk ∧ s102 = .int .i64 i ∧ wx = w5.drewN q)
    case atStart => exact ⟨0, 0, by omega, by omega, rfl, rfl⟩
    case round =>
      obtain ⟨i, q, hi, hgk, rfl, rfl⟩ := hrel
      obtain ⟨g', rfl⟩ : ∃ g', gk = g' + 1 := ⟨gk - 1, by omega⟩
      by_cases hlt : i < m
      · obtain ⟨b1, o1, rfl, _, hc1⟩ := D1.out (by rw [HMM.out]; omega)
        obtain ⟨b3, o3, rfl, _, hc3⟩ := D3.out (by rw [HMM.out]; omega)
        have c1 := hc1 i (by rw [HMM.out]; omega)
        have c3 := hc3 i (by rw [HMM.out]; omega)
        obtain ⟨x, hx⟩ : ∃ x, M.getD i 0 = x := ⟨_, rfl⟩
        rw [hx] at c1 c3
        clear hx hc1 hc3
        have hin : (i : Int) < (m : Int) := by omega
        go_wp2_with fail
        go_quiet (fail)
        go_wp2
        go_roundg g'
        case rel => exact ⟨i + 1, _, by omega, by omega, by go_num, rfl⟩
        case measure => omega
      · have him : i = m := by omega
        go_wp2_with fail
        go_loopg [117, 19] (n + 1) (fun gk s117 s19 wx => ∃ i q : Nat, i ≤ n ∧ n - i < gk ∧ s117 = .int .i64 i ∧ wx = w5.drewN q)
        case atStart => exact ⟨0, q, by omega, by omega, rfl, rfl⟩
        case round =>
          obtain ⟨j, q2, hj, hgk2, rfl, rfl⟩ := hrel
          obtain ⟨g2, rfl⟩ : ∃ g2, gk = g2 + 1 := ⟨gk - 1, by omega⟩
          by_cases hlt2 : j < n
          · obtain ⟨b1, o1, rfl, _, hc1⟩ := D2.out (by rw [HNN.out]; omega)
            obtain ⟨b3, o3, rfl, _, hc3⟩ := D4.out (by rw [HNN.out]; omega)
            have c1 := hc1 j (by rw [HNN.out]; omega)
            have c3 := hc3 j (by rw [HNN.out]; omega)
            obtain ⟨x, hx⟩ : ∃ x, N.getD j 0 = x := ⟨_, rfl⟩
            rw [hx] at c1 c3
            clear hx hc1 hc3
            have hin : (j : Int) < (n : Int) := by omega
            go_wp2_with fail
            go_quiet (fail)
            go_wp2
            go_roundg g2
            case rel => exact ⟨j + 1, _, by omega, by omega, by go_num, rfl⟩
            case measure => omega
          · go_wp2
            go_ret
            exact ⟨rfl, below_drewN HBW.out _⟩
  · rw [if_neg hap] at hlaw
    have HL := Lib.hid hlaw
    have HAP := Lib.hid (show clsF (-1) M = false by simpa using hap)
    clear hlaw hap
    go_enter Try.func6, Try.ntmps6
    go_wp2_with (first
      | (go_at_call_of 13 (Value.slice Al ls.length cl); refine (Calls.mono P1.out ?_); rintro e w1 ⟨rfl, q1, rfl⟩; rw [KL.out])
      | (go_at_call 13; refine (Calls.mono (P2 _).out ?_); rintro e w2 ⟨rfl, q2, rfl⟩; rw [KR.out])
      | (go_at_call_of 14 (Value.slice Al ls.length cl); refine (Calls.mono (C1 _).out ?_); rintro e w3 ⟨vM, vN, ok, rfl, hb3, hp3⟩; rw [HL.out] at hp3; obtain rfl := hp3; have HB3 := Lib.hid (show Below w.heap.size w w3 from (below_drewN (Below.refl w.heap.size w) _).trans hb3); clear hb3)
      | (go_at_call 15; refine (Calls.mono (C2 _ HB3.out).out ?_); rw [HS.out]; rintro e w4 ⟨A3, k3, A4, k4, rfl, hb4, hz3, hz4⟩; rw [HAP.out]; have HZ3 := Lib.hid hz3; have HZ4 := Lib.hid hz4; have HB4 := Lib.hid hb4; clear hz3 hz4 hb4)
      | (go_at_call 14; refine (Calls.mono (C3 w4).out ?_); rintro e w5 ⟨vM5, vN5, ok5, rfl, hb5, hp5⟩; rw [HG3.out] at hp5; obtain ⟨rfl, -⟩ := hp5; have HB5 := Lib.hid (show Below w4.heap.size w4 w5 from (((Below.refl _ w4).alloc (Nat.le_refl _) _).alloc (by simp) _).trans (hb5.mono (by simp; omega))); clear hb5))
    go_ret
    exact ⟨rfl, (HB3.out.trans (HB4.out.mono HB3.out.size)).trans (HB5.out.mono (Nat.le_trans HB3.out.size HB4.out.size))⟩
theorem pgl_any (zl : IntsAt w w.heap.size .i32 Al ls) (zr : IntsAt w w.heap.size .i32 Ar rs) (hcl : ls.length ≤ cl) (hcr : rs.length ≤ cr) :
    Calls Try.prog 6 #[.slice Al ls.length cl, .slice Ar rs.length cr, .int .u32 lp, .int .u32 rp] w fun e w' => e = .returned (.bool true) ∧ Below w.heap.size w w' := by
  have up : ∀ {P : Prop} {w' : World}, P ∧ (∃ q, w' = w.drewN q) → P ∧ Below w.heap.size w w' := fun ⟨h, q, hq⟩ => ⟨h, by rw [hq]; exact below_drewN (Below.refl _ _) q⟩
  by_cases h0 : 2147483647 < ls.length
  · exact (pgl_big1 cl cr Al Ar ls rs lp rp w h0).mono fun e w' h => up h
  by_cases h1 : 2147483647 < rs.length
  · exact (pgl_big2 cl cr Al Ar ls rs lp rp w (by omega) h1).mono fun e w' h => up h
  by_cases h2 : 100 < ls.length
  · exact (pgl_l100 cl cr Al Ar ls rs lp rp w (by omega) (by omega) h2).mono fun e w' h => up h
  by_cases h3 : 100 < rs.length
  · exact (pgl_r100 cl cr Al Ar ls rs lp rp w (by omega) (by omega) (by omega) h3).mono fun e w' h => up h
  by_cases h4 : lp = 4294967295
  · exact (pgl_lpc cl cr Al Ar ls rs lp rp w (by omega) (by omega) h4).mono fun e w' h => up h
  by_cases h5 : rp = 4294967295
  · exact (pgl_rpc cl cr Al Ar ls rs lp rp w (by omega) (by omega) h4 h5).mono fun e w' h => up h
  by_cases kl : clsF (-1) ls = true
  · by_cases kr : clsF (-1) rs = true
    · exact pgl_main cl cr Al Ar ls rs lp rp w (by omega) (by omega) h4 h5 zl zr kl kr hcl hcr
    · exact (pgl_rcl cl cr Al Ar ls rs lp rp w (by omega) (by omega) h4 h5 zl zr kl (by simpa using kr)).mono fun e w' h => up h
  · exact (pgl_lcl cl cr Al Ar ls rs lp rp w (by omega) (by omega) h4 h5 zl (by simpa using kl)).mono fun e w' h => up h
end
end Go.Proofs.Ytholpemmakdglaa.Mem
