/- What the reference's small functions give: pairs of places, groups' texts, plain templates. -/
import Derived.Test.YtmgdlodnhmpbiaaDoorTpEFnTxTemplate
namespace Go.Proofs.YtmgdlodnhmpbiaaDoor.Tx
open Go.RowKit Go.Lib Ext Mem Go.Proofs.YtmgdlodnhmpbiaaDoor.PFnTxTemplate Go.Proofs.YtmgdlodnhmpbiaaDoorW.PrintWords Go.Proofs.YtmgdlodnhmpbiaaDoorW.PrintLast Go.Proofs.YtmgdlodnhmpbiaaDoorW.PrintMore
set_option linter.unusedVariables false
def PrAt (M : List Int) (n k : Nat) : Prop := (M.getD (2 * k) 0 = -1 ∧ M.getD (2 * k + 1) 0 = -1) ∨ (0 ≤ M.getD (2 * k) 0 ∧ M.getD (2 * k) 0 ≤ M.getD (2 * k + 1) 0 ∧ M.getD (2 * k + 1) 0 ≤ n)
/-- Pairs of places of a text of n bytes, or -1 and -1. -/
def Prs (M : List Int) (n : Nat) : Prop := 2 ≤ M.length ∧ M.length % 2 = 0 ∧ ∀ k, 2 * k + 1 < M.length → PrAt M n k
theorem Prs.pairs {M : List Int} {n : Nat} (h : Prs M n) : PairsOf M n := fun k hk h0 => by
  rcases h.2.2 k hk with h | h
  · omega
  · exact ⟨h.2.1, h.2.2⟩
theorem wr2 {i : Nat} (h : i ≤ 2147483647) : wrap64 ((i : Int) + 2) = ((i + 2 : Nat) : Int) := by unfold wrap64; omega
theorem prs_l {M : List Int} {src : ByteArray} (hl : M.length ≤ 2147483647) (hs : src.size ≤ 2147483647) : ∀ (k i : Nat), M.length < 2 * i + 2 * k → 2 * i ≤ M.length → (∀ q, q < i → PrAt M src.size q) →
    ∃ r, spec_TxPairs.l0 k M src ((2 * i : Nat) : Int) = some r ∧ (r = true → Prs M src.size)
  | 0, i, h, hi, _ => by omega
  | k + 1, i, h, hi, hp => by
    have hw := wr (i := 2 * i) (by omega)
    have hw2 := wr2 (i := 2 * i) (by omega)
    have hr0 : rd M ((2 * i : Nat) : Int) = M.getD (2 * i) 0 := by simp only [rd, Int.toNat_natCast]
    have hr1 : rd M ((2 * i + 1 : Nat) : Int) = M.getD (2 * i + 1) 0 := by simp only [rd, Int.toNat_natCast]
    simp only [spec_TxPairs.l0, hw, hw2, hr0, hr1]
    by_cases h1 : 2 * i + 1 < M.length
    · rw [if_pos (by omega), if_pos (by omega), if_pos (by omega), if_pos (by omega)]
      have next : PrAt M src.size i → ∃ r, spec_TxPairs.l0 k M src ((2 * i + 2 : Nat) : Int) = some r ∧ (r = true → Prs M src.size) := fun ha => by
        have := prs_l hl hs k (i + 1) (by omega) (by omega) (fun q hq => by
          by_cases e : q = i
          · rw [e]; exact ha
          · exact hp q (by omega))
        exact this
      repeat' split
      all_goals first
        | exact ⟨false, rfl, fun h => by cases h⟩
        | exact next (by unfold PrAt; omega)
    · rw [if_neg (by omega)]
      have hend : ∀ q, 2 * q + 1 < M.length → PrAt M src.size q := fun q hq => hp q (by omega)
      split
      · refine ⟨_, rfl, fun he => ⟨by omega, ?_, hend⟩⟩
        have : (M.length : Int) % 2 = 0 := by simpa using he
        omega
      · exact ⟨false, rfl, fun h => by cases h⟩
theorem pairs_f {M : List Int} {src : ByteArray} (hl : M.length ≤ 2147483647) (hs : src.size ≤ 2147483647) : ∃ r, spec_TxPairs.f (M.length + 1) M src = some r ∧ (r = true → Prs M src.size) := by
  have := prs_l hl hs (M.length + 1) 0 (by omega) (by omega) (fun q hq => by omega)
  exact this
theorem placed_l {M : List Int} {n : Nat} (hl : M.length ≤ 2147483647) (hP : Prs M n) : ∀ (k i : Nat), M.length < 2 * i + 2 * k → 2 * i ≤ M.length → impl_placed.l0 k M (n : Int) ((2 * i : Nat) : Int) = some true
  | 0, i, h, hi => by omega
  | k + 1, i, h, hi => by
    have hw := wr (i := 2 * i) (by omega)
    have hw2 := wr2 (i := 2 * i) (by omega)
    have hr0 : rd M ((2 * i : Nat) : Int) = M.getD (2 * i) 0 := by simp only [rd, Int.toNat_natCast]
    have hr1 : rd M ((2 * i + 1 : Nat) : Int) = M.getD (2 * i + 1) 0 := by simp only [rd, Int.toNat_natCast]
    have he := hP.2.1
    simp only [impl_placed.l0, hw, hw2, hr0, hr1]
    by_cases h1 : 2 * i < M.length
    · have hp := hP.2.2 i (by omega)
      have next : impl_placed.l0 k M (n : Int) ((2 * i + 2 : Nat) : Int) = some true := placed_l hl hP k (i + 1) (by omega) (by omega)
      rw [if_pos (by omega), if_neg (by omega), if_pos (by omega), if_pos (by omega), if_pos (by omega)]
      unfold PrAt at hp
      repeat' split
      all_goals first
        | exact next
        | omega
    · rw [if_neg (by omega)]
theorem placed_f {M : List Int} {n : Nat} (hl : M.length ≤ 2147483647) (hP : Prs M n) : impl_placed.f (M.length + 1) M (n : Int) = some true := placed_l hl hP (M.length + 1) 0 (by omega) (by omega)
theorem group_f {M : List Int} {src : ByteArray} {n : Nat} (hn : n < 100) (hl : M.length ≤ 2147483647) (hP : Prs M src.size) : ∃ s t, spec_TxGroup.f src M (n : Int) = some (s, t) ∧ s.data.toList = grpL src M n := by
  have hw1 : wrap64 (2 * (n : Int)) = ((2 * n : Nat) : Int) := by unfold wrap64; omega
  have hw2 := wr (i := 2 * n) (by omega)
  have he := hP.2.1
  have h2 := hP.1
  have hw3 : wrap64 (Int.tdiv (wrap64 ((M.length : Int) - 2)) 2) = ((M.length / 2 - 1 : Nat) : Int) := by
    rw [show wrap64 ((M.length : Int) - 2) = ((M.length - 2 : Nat) : Int) by unfold wrap64; omega, Int.tdiv_eq_ediv_of_nonneg (by omega)]
    unfold wrap64; omega
  have hr0 : rd M ((2 * n : Nat) : Int) = M.getD (2 * n) 0 := by simp only [rd, Int.toNat_natCast]
  have hr1 : rd M ((2 * n + 1 : Nat) : Int) = M.getD (2 * n + 1) 0 := by simp only [rd, Int.toNat_natCast]
  unfold spec_TxGroup.f grpL
  simp only [hw1, hw2, hw3, hr0, hr1]
  rw [if_neg (by omega)]
  by_cases h1 : 2 * n + 1 < M.length
  · have hp := hP.2.2 n h1
    rw [if_neg (by omega), if_pos (by omega), if_pos (by omega)]
    unfold PrAt at hp
    by_cases hneg : M.getD (2 * n) 0 < 0
    · rw [if_pos hneg, if_neg (by omega)]
      exact ⟨_, _, rfl, rfl⟩
    · rw [if_neg hneg, if_pos (by omega), if_pos (by omega), if_pos (by omega), if_pos (by omega), if_pos (by omega), if_pos (by omega)]
      exact ⟨_, _, rfl, rfl⟩
  · rw [if_pos (by omega), if_neg (by omega)]
    exact ⟨_, _, rfl, rfl⟩
theorem fits_l {L : List ByteArray} (hl : L.length ≤ 2147483647) : ∀ (k i : Nat), L.length < i + k → i ≤ L.length → ∃ r, laws_zzFits8.l0 k L (L.length : Int) (i : Int) = some r
  | 0, i, h, hi => by omega
  | k + 1, i, h, hi => by
    simp only [laws_zzFits8.l0]
    by_cases h1 : i < L.length
    · rw [if_pos (by omega), if_pos (by omega), if_pos (by omega), wr (by omega)]
      split
      · exact ⟨false, rfl⟩
      · exact fits_l hl k (i + 1) (by omega) (by omega)
    · rw [if_neg (by omega)]
      exact ⟨true, rfl⟩
theorem fits_f (L : List ByteArray) (hl : L.length ≤ 2147483647) : ∃ r, laws_zzFits8.f (L.length + 1) L = some r := by
  unfold laws_zzFits8.f
  rw [if_neg (by omega)]
  exact fits_l hl (L.length + 1) 0 (by omega) (by omega)
def bi (l : List UInt8) : List Int := l.map fun b => (b.toNat : Int)
theorem strOf_bi (l : List UInt8) : (strOfNums (bi l)).data.toList = l := by
  rw [strOfNums_data, bi, List.map_map]
  conv => rhs; rw [← List.map_id l]
  refine List.map_congr_left fun b _ => ?_
  simp
theorem bt_nat {s : ByteArray} {i : Nat} (h : i < s.size) : bt s (i : Int) = (s[i].toNat : Int) := by
  unfold bt
  rw [dif_pos (by simpa using h)]
  simp
theorem bi_app (a b : List UInt8) : bi (a ++ b) = bi a ++ bi b := by simp [bi]
theorem plain_l {s : ByteArray} (hs : s.size ≤ 2147483647) : ∀ (k i : Nat) (acc : List UInt8), s.size < i + k → i ≤ s.size → acc.length ≤ 2 * i →
    spec_TxPlainTemplate.l0 k s (bi acc) (i : Int) = some (strOfNums (bi (acc ++ plainL (s.data.toList.drop i))))
  | 0, i, acc, h, hi, ha => by omega
  | k + 1, i, acc, h, hi, ha => by
    have hbl : (bi acc).length = acc.length := by simp [bi]
    have hbl2 : (bi acc ++ [(36 : Int)]).length = acc.length + 1 := by simp [bi]
    simp only [spec_TxPlainTemplate.l0]
    by_cases h1 : i < s.size
    · rw [if_pos (by omega), if_pos (by omega), bt_nat h1, drop_at s i h1, wr (by omega)]
      by_cases hc : s[i] = 36
      · rw [if_pos (by rw [hc]; rfl), if_pos (by omega)]
        simp only [Option.bind_some]
        rw [if_pos (by omega), hc]
        have e : bi acc ++ [(36 : Int)] ++ [((36 : UInt8).toNat : Int)] = bi (acc ++ [36, 36]) := by simp [bi]
        rw [e, plain_l hs k (i + 1) (acc ++ [36, 36]) (by omega) (by omega) (by simp; omega)]
        simp [plainL]
      · rw [if_neg (by
          intro e
          exact hc (by rw [← UInt8.toNat_inj]; have : s[i].toNat = 36 := by omega
                       rw [this]; rfl)), if_pos (by omega)]
        have e : bi acc ++ [(s[i].toNat : Int)] = bi (acc ++ [s[i]]) := by simp [bi]
        rw [e, plain_l hs k (i + 1) (acc ++ [s[i]]) (by omega) (by omega) (by simp; omega)]
        simp [plainL, hc]
    · rw [if_neg (by omega)]
      have : i = s.data.toList.length := by rw [Array.length_toList]; show i = s.size; omega
      rw [List.drop_of_length_le (by omega)]
      simp [plainL]
theorem plain_f {s : ByteArray} (hs : s.size ≤ 2147483647) : ∃ r, spec_TxPlainTemplate.f (s.size + 1) s = some r ∧ r.data.toList = plainL s.data.toList :=
  ⟨_, plain_l hs (s.size + 1) 0 [] (by omega) (by omega) (by simp), by rw [strOf_bi]; simp⟩
end Go.Proofs.YtmgdlodnhmpbiaaDoor.Tx
