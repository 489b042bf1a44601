/- The package's look at the repeats of a tree. -/
import Derived.Test.YtholpemmakdglaaRgFnSyRepeatValid
import Derived.Deep.DeepCutAuto
import Derived.Deep.CutBlock
import Derived.Deep.LoopGhost
namespace Go.Proofs.Ytholpemmakdglaa.PFnSyRepeatValid
open Go.RowKit Go.Proofs.YtholpemmakdglaaW.PrintWords Go.Proofs.YtholpemmakdglaaW.PrintLast Go.Proofs.YtholpemmakdglaaW.PrintMore
set_option linter.unusedVariables false
set_option linter.unusedSimpArgs false
mutual
/-- Whether the repeats of a tree, one inside the other, make at most n copies. -/
def rvT : Tr → Int → Bool
  | ⟨op, _, _, m0, m1, _, _, ts⟩, n =>
    if op = 17 then
      if m1 = 0 then true
      else if n < (if m1 < 0 then m0 else m1) then false
      else rvL ts (if 0 < (if m1 < 0 then m0 else m1) then n / (if m1 < 0 then m0 else m1) else n)
    else rvL ts n
def rvL : List Tr → Int → Bool
  | [], _ => true
  | t :: ts, n => rvT t n && rvL ts n
end
theorem own_at {w : World} {base : Nat} {e : TypeId} {A : Option Addr} {c n : Nat} {xs : List Value} (h : w.ownsRow base e 1 (.slice A n c) n xs) {j : Nat} {u : Value} (hj : xs[j]? = some u) : ∃ g, A = some ⟨g, 0, none⟩ ∧ w.cell? ⟨g, j, none⟩ = some u := by
  rcases h.2 with ⟨hv, hn⟩ | ⟨g, cap, cur, hv, _, hg, _⟩
  · have := h.1
    have hl : j < xs.length := (List.getElem?_eq_some_iff.1 hj).1
    omega
  · injection hv with hA _ _
    refine ⟨g, hA, ?_⟩
    have := h.cells (g := g) (by rw [hA]; rfl) j u hj
    rw [Addr.add_lit] at this
    simpa using this
set_option maxRecDepth 100000 in
set_option maxHeartbeats 4000000 in
theorem repeatIsValid_c : ∀ (N : Nat) (t : Tr) (b : Nat) (n : Int) (w : World), ncT t ≤ N → RgT w (fun _ => True) b t → 0 ≤ n → n ≤ 1000 →
    Calls Try.prog 42 #[.pointer (some ⟨b, 0, none⟩), .int .i64 n] w fun e w' => e = .returned (.bool (rvT t n)) ∧ Below w.heap.size w w' := by
  intro N
  induction N with
  | zero => intro t b n w hN; have := ncT_pos t; omega
  | succ N ih =>
    intro t b n w hN hr hn0 hn1
    obtain ⟨op, fl, rs, m0, m1, cp, nm, ts⟩ := t
    rw [ncT] at hN
    rw [RgT] at hr
    obtain ⟨_, vS, vR, bs, hbk, _, hoR, _, hoS, hL⟩ := hr
    have IH := Lib.hid ih
    clear ih
    obtain ⟨AS, cS, rfl⟩ := own_slice hoS
    have c0 : w.cell? ⟨b, 0, none⟩ = some (.int .u8 op) := (blk_cell hbk 0).trans rfl
    have c2 : w.cell? ⟨b, 2, none⟩ = some (.slice AS ts.length cS) := (blk_cell hbk 2).trans rfl
    have c7 : w.cell? ⟨b, 7, none⟩ = some (.int .i64 m0) := (blk_cell hbk 7).trans rfl
    have c8 : w.cell? ⟨b, 8, none⟩ = some (.int .i64 m1) := (blk_cell hbk 8).trans rfl
    have HO := Lib.hid hoS
    have HL := Lib.hid hL
    clear hbk hoR hoS hL
    rw [rvT]
    generalize hR : (if op = 17 then if m1 = 0 then true else if n < (if m1 < 0 then m0 else m1) then false else rvL ts (if 0 < (if m1 < 0 then m0 else m1) then n / (if m1 < 0 then m0 else m1) else n) else rvL ts n) = R
    have HR := Lib.hid hR
    clear hR
    go_enter Try.func42, Try.ntmps42
    go_upto_if 12 with fail
    go_cut [1] (fun s1 wx => ∃ n1 : Int, s1 = .int .i64 n1 ∧ wx = w ∧ 0 ≤ n1 ∧ n1 ≤ 1000 ∧ R = rvL ts n1)
    case first =>
      by_cases h17 : op = 17
      · have hb17 : (op == 17) = true := by simpa using h17
        have hr := HR.out
        rw [if_pos h17] at hr
        clear h17
        by_cases hz : m1 = 0
        · have hbz : (m1 == 0) = true := by simpa using hz
          rw [if_pos hz] at hr
          have HR2 := Lib.hid hr
          clear hz hr
          go_wp2_with fail
          go_ret
          exact ⟨by rw [← HR2.out]; rfl, Below.refl _ _⟩
        · have hbz : (m1 == 0) = false := by simpa using hz
          rw [if_neg hz] at hr
          clear hz
          obtain ⟨m, hm⟩ : ∃ m, m = if m1 < 0 then m0 else m1 := ⟨_, rfl⟩
          rw [← hm] at hr
          by_cases hneg : m1 < 0
          · have hbn : decide (m1 < 0) = true := by simpa using hneg
            rw [if_pos hneg] at hm
            subst hm
            by_cases hgt : n < m
            · have hbg : decide (n < m) = true := by simpa using hgt
              rw [if_pos hgt] at hr
              have HR2 := Lib.hid hr
              clear hr hgt hneg
              go_wp2_with fail
              go_ret
              exact ⟨by rw [← HR2.out]; rfl, Below.refl _ _⟩
            · have hbg : decide (n < m) = false := by simpa using hgt
              rw [if_neg hgt] at hr
              by_cases hp : 0 < m
              · have hbp : decide (0 < m) = true := by simpa using hp
                rw [if_pos hp] at hr
                have HR2 := Lib.hid hr
                have hdv : n.tdiv m = n / m := Int.tdiv_eq_ediv_of_nonneg hn0
                have hne : m ≠ 0 := by omega
                have h0 : 0 ≤ n / m := Int.ediv_nonneg hn0 (by omega)
                have h1 : n / m ≤ n := Int.ediv_le_self _ hn0
                have hbe : (m == 0) = false := by simpa using hne
                have hwr : IntKind.i64.wrap (n / m) = n / m := by rw [IntKind.wrap_i64]; omega
                clear hr hgt hneg hp
                generalize hq : n / m = q at *
                go_wp2_with fail
                go_meet
                exact ⟨q, rfl, rfl, by omega, by omega, HR2.out.symm⟩
              · have hbp : decide (0 < m) = false := by simpa using hp
                rw [if_neg hp] at hr
                have HR2 := Lib.hid hr
                clear hr hgt hneg hp
                go_wp2_with fail
                go_meet
                exact ⟨n, rfl, rfl, by omega, by omega, HR2.out.symm⟩
          · have hbn : decide (m1 < 0) = false := by simpa using hneg
            rw [if_neg hneg] at hm
            subst hm
            by_cases hgt : n < m
            · have hbg : decide (n < m) = true := by simpa using hgt
              rw [if_pos hgt] at hr
              have HR2 := Lib.hid hr
              clear hr hgt hneg
              go_wp2_with fail
              go_ret
              exact ⟨by rw [← HR2.out]; rfl, Below.refl _ _⟩
            · have hbg : decide (n < m) = false := by simpa using hgt
              rw [if_neg hgt] at hr
              have hp : 0 < m := by
                have : m ≠ 0 := by simpa using hbz
                omega
              have hbp : decide (0 < m) = true := by simpa using hp
              rw [if_pos hp] at hr
              have HR2 := Lib.hid hr
              have hdv : n.tdiv m = n / m := Int.tdiv_eq_ediv_of_nonneg hn0
              have hne : m ≠ 0 := by omega
              have h0 : 0 ≤ n / m := Int.ediv_nonneg hn0 (by omega)
              have h1 : n / m ≤ n := Int.ediv_le_self _ hn0
              have hwr : IntKind.i64.wrap (n / m) = n / m := by rw [IntKind.wrap_i64]; omega
              clear hr hgt hneg hp
              generalize hq : n / m = q at *
              go_wp2_with fail
              go_meet
              exact ⟨q, rfl, rfl, by omega, by omega, HR2.out.symm⟩
      · have hb17 : (op == 17) = false := by simpa using h17
        have hr := HR.out
        rw [if_neg h17] at hr
        have HR2 := Lib.hid hr
        clear h17 hr
        go_wp2_with fail
        go_meet
        exact ⟨n, rfl, rfl, hn0, hn1, HR2.out.symm⟩
    case rest =>
      obtain ⟨n1, rfl, rfl, h0, h1, hR1⟩ := hcut
      have HR1 := Lib.hid hR1
      have hlen := rgL_len _ _ HL.out
      have hl7 : Hid (ts.length ≤ maxLen) := Lib.hid (by
        rcases HO.out.2 with ⟨hv, hn⟩ | ⟨g, cap, cur, hv, _, hg, h3, h4, _⟩
        · rw [hn]; exact Nat.zero_le _
        · exact Nat.le_trans h3 h4)
      clear hR1 c0 c7 c8 HR
      go_wp2_with fail
      have hfit : ts.length ≤ 9223372036854775807 := by have := hl7.out; unfold maxLen at this; omega
      go_loopg [38] (ts.length + 1) (fun g s38 wx => ∃ i : Nat, s38 = .int .i64 i ∧ i ≤ ts.length ∧ Below wc.heap.size wc wx ∧ R = rvL (ts.drop i) n1 ∧ ncL (ts.drop i) ≤ N ∧ ts.length - i < g)
      case atStart => exact ⟨0, rfl, by omega, Below.refl _ _, HR1.out, by rw [List.drop_zero]; omega, by omega⟩
      case round =>
        obtain ⟨i, rfl, hi, hbw, hRi, hnc, hg⟩ := hrel
        have HB := Lib.hid hbw; have HRI := Lib.hid hRi; have HN := Lib.hid hnc
        clear hbw hRi hnc HR1
        obtain ⟨g', rfl⟩ : ∃ g', gk = g' + 1 := ⟨gk - 1, by omega⟩
        by_cases hlt : i < ts.length
        · obtain ⟨t, ts', hd⟩ : ∃ t ts', ts.drop i = t :: ts' := by
            cases hdr : ts.drop i with
            | nil => have := List.drop_eq_nil_iff.1 hdr; omega
            | cons t ts' => exact ⟨t, ts', rfl⟩
          have hti : ts[i]? = some t := by
            have := congrArg List.head? hd
            rw [List.head?_drop] at this
            simpa using this
          obtain ⟨b', hb', hr'⟩ := rgL_get ts bs i t HL.out hti
          obtain ⟨gg, rfl, hcell⟩ := own_at (u := .pointer (some ⟨b', 0, none⟩)) HO.out (j := i) (by simp [ptrs, hb'])
          have q0 := Gb.cellB HB.out hcell
          have hRi := HRI.out; have hnc := HN.out
          rw [hd] at hRi hnc
          rw [rvL] at hRi
          rw [ncL] at hnc
          have hd1 := (rd_at hd).2.2
          have HD1 := Lib.hid hd1; have HRI2 := Lib.hid hRi; have HN2 := Lib.hid hnc
          have CI : Hid (∀ w1, Below wr.heap.size wr w1 → Calls Try.prog 42 #[.pointer (some ⟨b', 0, none⟩), .int .i64 n1] w1 fun e w' => e = .returned (.bool (rvT t n1)) ∧ Below w1.heap.size w1 w') := Lib.hid fun w1 hb1 =>
            IH.out t b' n1 w1 (by omega) (rgT_move (fun k _ hk => ⟨(hb1.block k (Nat.lt_of_lt_of_le hk HB.out.size)).trans (HB.out.block k hk), trivial⟩) t b' hr') h0 h1
          clear hd hti hb' hr' hcell hRi hnc hd1 HRI HN
          cases hv : rvT t n1 with
          | true =>
            rw [hv] at CI HRI2
            have CI2 := CI
            clear hv CI
            go_wp2_with (go_at_call 42; refine (CI2.out _ (Below.refl _ _)).mono ?_; rintro e w2 ⟨rfl, hb2⟩)
            go_roundg g'
            case rel => exact ⟨i + 1, by go_num, by omega, HB.out.trans (hb2.mono HB.out.size), by have := HRI2.out; rw [HD1.out]; simpa using this, by rw [HD1.out]; have := HN2.out; omega, by omega⟩
            case measure => omega
          | false =>
            rw [hv] at CI HRI2
            have CI2 := CI
            clear hv CI
            go_wp2_with (go_at_call 42; refine (CI2.out _ (Below.refl _ _)).mono ?_; rintro e w2 ⟨rfl, hb2⟩)
            go_ret
            exact ⟨by have := HRI2.out; rw [Bool.false_and] at this; rw [this]; rfl, HB.out.trans (hb2.mono HB.out.size)⟩
        · obtain rfl : i = ts.length := by omega
          go_wp2_with fail
          go_ret
          exact ⟨by have := HRI.out; rw [List.drop_length, rvL] at this; rw [this]; rfl, HB.out⟩
end Go.Proofs.Ytholpemmakdglaa.PFnSyRepeatValid
