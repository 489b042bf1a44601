/- The reader of a name behind a $, the package's and the reference's: each as a function of the string. -/
import Derived.Test.YtholpemmakdglaaDoorTxLib
import Derived.Test.YtholpemmakdglaaDoorExtPure
import Derived.Deep.QuietTactic
import Derived.BigQuiet
namespace Go.Proofs.YtholpemmakdglaaDoor.Tx
open Go.RowKit Go.Lib Ext
set_option linter.unusedVariables false
/-- A character of a name. -/
def nch (r : Int) : Bool := r == 95 || isLetterU r || isDigitU r
/-- Where the name ends that goes on at place k; g: the rounds at hand. -/
def nEnd (s : ByteArray) : Nat → Nat → Nat
  | 0, k => k
  | g + 1, k => if k < s.size ∧ nch ((Utf8.decode s k).1 : Nat) = true then nEnd s g (k + (Utf8.decode s k).2) else k
theorem nEnd_yes {s : ByteArray} {g k : Nat} (h : k < s.size) (hn : nch ((Utf8.decode s k).1 : Nat) = true) : nEnd s (g + 1) k = nEnd s g (k + (Utf8.decode s k).2) := by
  simp only [nEnd]; rw [if_pos ⟨h, hn⟩]
theorem nEnd_no {s : ByteArray} {g k : Nat} (h : ¬ (k < s.size ∧ nch ((Utf8.decode s k).1 : Nat) = true)) : nEnd s (g + 1) k = k := by
  simp only [nEnd]; rw [if_neg h]
theorem nEnd_le (s : ByteArray) : ∀ g k, k ≤ s.size → nEnd s g k ≤ s.size
  | 0, k, h => h
  | g + 1, k, h => by
    simp only [nEnd]
    split
    · rename_i hc
      exact nEnd_le s g _ (decode_fits s k hc.1).2
    · exact h
set_option maxRecDepth 100000 in
set_option maxHeartbeats 1000000 in
theorem namechar_c (r : Int) (w : World) (hlo : -2147483648 ≤ r) (hhi : r ≤ 2147483647) (hT : UTabs w) :
    Calls Tryd.prog 27 #[.int .i32 r] w fun e w' => e = .returned (.bool (nch r)) ∧ Below w.heap.size w w' := by
  by_cases h9 : r = 95
  · have hs : nch r = true := by simp [nch, h9]
    have HS := Lib.hid hs
    have hb : (r == 95) = true := by simpa using h9
    clear h9 hs
    go_enter Tryd.func27, Tryd.ntmps27
    go_wp2
    go_ret
    rw [HS.out]
    exact ⟨rfl, Below.refl _ _⟩
  · have hb : (r == 95) = false := by simpa using h9
    have hs : nch r = (isLetterU r || isDigitU r) := by unfold nch; rw [hb]; simp only [Bool.false_or]
    have HS := Lib.hid hs
    have HT := Lib.hid hT
    have cL := letter_c r w hlo hhi hT
    have cD : ∀ W1, Below w.heap.size w W1 → Calls Tryd.prog 49 #[.int .i32 r] W1 fun e w' => e = .returned (.bool (isDigitU r)) ∧ Below W1.heap.size W1 w' := fun W1 h1 => digit_c r W1 hlo hhi (hT.below h1)
    clear h9 hs hT
    cases hl : isLetterU r <;> rw [hl] at cL HS
    · generalize isDigitU r = dg at *
      have CL := Lib.hid cL; clear cL
      have CD := Lib.hid cD; clear cD hl
      go_enter Tryd.func27, Tryd.ntmps27
      go_wp2_with (first
        | (go_at_call 48; refine CL.out.mono ?_; rintro e W1 ⟨rfl, hb1⟩)
        | (go_at_call 49; refine (CD.out _ hb1).mono ?_; rintro e W2 ⟨rfl, hb2⟩))
      go_ret
      rw [HS.out]
      exact ⟨rfl, hb1.trans (hb2.mono hb1.size)⟩
    · have CL := Lib.hid cL; clear cL cD hl
      go_enter Tryd.func27, Tryd.ntmps27
      go_wp2_with (first
        | (go_at_call 48; refine CL.out.mono ?_; rintro e W1 ⟨rfl, hb1⟩))
      go_ret
      rw [HS.out]
      exact ⟨rfl, hb1⟩
theorem toList_empty {s : ByteArray} (h : s.size = 0) : s.toList.isEmpty = true := by
  rw [Lib.toList_data]
  have : s.data.toList = [] := List.eq_nil_of_length_eq_zero (by rw [← Lib.size_eq]; exact h)
  rw [this]; rfl
theorem toList_full {s : ByteArray} (h : s.size ≠ 0) : s.toList.isEmpty = false := by
  rw [Lib.toList_data]
  cases e : s.data.toList with
  | nil => exact absurd (by rw [Lib.size_eq, e]; rfl) h
  | cons _ _ => rfl
theorem drop_at (s : ByteArray) (k : Nat) (h : k < s.size) : s.data.toList.drop k = s[k] :: s.data.toList.drop (k + 1) := by
  rw [List.drop_eq_getElem_cons (by rw [← Lib.size_eq]; exact h)]; rfl
theorem all_no {s : ByteArray} {k : Nat} (h : k < s.size) (hd : isD s[k] = false) : s.data.toList.all isD = false := by
  rw [Bool.eq_false_iff]
  intro ha
  have := List.all_eq_true.1 ha s[k] (by
    have hk : k < s.data.toList.length := by rw [← Lib.size_eq]; exact h
    exact (List.getElem_mem hk : s.data.toList[k] ∈ _))
  rw [hd] at this; cases this
set_option maxRecDepth 100000 in
set_option maxHeartbeats 1000000 in
theorem gnum_c (s : ByteArray) (w : World) (hm : s.size ≤ 2147483647) :
    Calls Tryd.prog 28 #[.string s] w fun e w' => e = .returned (.int .i64 (finS s.data.toList)) ∧ w' = w := by
  obtain ⟨ANS, hA⟩ : ∃ a, numS s.data.toList 0 = a := ⟨_, rfl⟩
  have HA := Lib.hid hA; clear hA
  go_enter Tryd.func28, Tryd.ntmps28
  go_wp2
  go_loop [3, 4] (fun s3 s4 => ∃ (k : Nat) (n : Int), s3 = .int .i64 n ∧ s4 = .int .i64 k ∧ k ≤ s.size ∧ 0 ≤ n ∧ n ≤ 1000000000 ∧ numS (s.data.toList.drop k) n = ANS) (fun _ i => s.size - (RowKit.intOf i).toNat)
  case atStart => exact ⟨0, 0, rfl, rfl, by omega, by omega, by omega, by simpa using HA.out⟩
  case round =>
    obtain ⟨k, n, rfl, rfl, hk, h0, h1, hn⟩ := hrel
    by_cases hlt : k < s.size
    · rw [drop_at s k hlt] at hn
      by_cases hd : isD s[k] = true
      · have hc := (isD_iff _).1 hd
        simp only [numS] at hn
        rw [if_pos hd] at hn
        have HN := Lib.hid hn
        clear hn hd
        obtain ⟨hc1, hc2⟩ := hc
        go_wp2
        refine ⟨⟨k + 1, _, rfl, by go_num, by omega, by omega, by omega, HN.out⟩, by simp [RowKit.intOf]; omega⟩
      · have hd' : isD s[k] = false := by simpa using hd
        have HNO := all_no hlt hd'
        have hs : finS s.data.toList = -1 := by unfold finS; rw [if_neg (by rw [HNO]; simp)]
        have HS := Lib.hid hs
        have hor : s[k].toNat < 48 ∨ 57 < s[k].toNat := by
          rcases Nat.lt_or_ge s[k].toNat 48 with h | h
          · exact Or.inl h
          · exact Or.inr (Nat.lt_of_not_le fun h' => by simp [(isD_iff _).2 ⟨h, h'⟩] at hd')
        clear hn hd hd' HNO hs
        rcases hor with hlo | hhi
        · go_wp2
          go_ret
          rw [HS.out]
          exact ⟨rfl, rfl⟩
        · have hlo : ¬ s[k].toNat < 48 := by omega
          go_wp2
          go_ret
          rw [HS.out]
          exact ⟨rfl, rfl⟩
    · obtain rfl : k = s.size := by omega
      have hnn : n = ANS := by rw [← hn, List.drop_of_length_le (by rw [← Lib.size_eq]; omega)]; rfl
      subst hnn
      have hall : s.data.toList.all isD = true := by
        cases e : s.data.toList.all isD with
        | true => rfl
        | false => have := numS_no _ 0 e; rw [HA.out] at this; omega
      have hs : finS s.data.toList = if s.data.toList = [] ∨ 9 < s.data.toList.length ∨ (s.data.toList.head? = some 48 ∧ 1 < s.data.toList.length) then -1 else n := by
        unfold finS; rw [if_pos hall, HA.out]
      clear hn hall hlt
      rw [← Lib.size_eq] at hs
      by_cases hz : s.size = 0
      · have hs2 : finS s.data.toList = -1 := by rw [hs, if_pos (Or.inl (List.eq_nil_of_length_eq_zero (by rw [← Lib.size_eq]; exact hz)))]
        have HS := Lib.hid hs2
        have he := toList_empty hz
        clear hs hs2 hz
        go_wp2
        go_ret
        rw [HS.out]
        exact ⟨rfl, rfl⟩
      · have he := toList_full hz
        have hne : s.data.toList ≠ [] := fun e => hz (by rw [Lib.size_eq, e]; rfl)
        by_cases h9 : 9 < s.size
        · have hs2 : finS s.data.toList = -1 := by rw [hs, if_pos (Or.inr (Or.inl h9))]
          have HS := Lib.hid hs2
          clear hs hs2 hz hne
          go_wp2
          go_ret
          rw [HS.out]
          exact ⟨rfl, rfl⟩
        · have hpos : 0 < s.size := by omega
          have hhd : s.data.toList.head? = some s[0] := by
            have := drop_at s 0 hpos
            rw [List.drop_zero] at this
            rw [this]; rfl
          rw [hhd] at hs
          by_cases h0 : s[0].toNat = 48
          · have e0 : s[0] = 48 := by rw [← UInt8.toNat_inj, h0]; rfl
            by_cases h1 : 1 < s.size
            · have hs2 : finS s.data.toList = -1 := by rw [hs, if_pos (Or.inr (Or.inr ⟨by rw [e0], h1⟩))]
              have HS := Lib.hid hs2
              have hb : ((s[0].toNat : Int) == 48) = true := by rw [h0]; rfl
              clear hs hs2 hz hne hhd h0 e0
              go_wp2
              go_ret
              rw [HS.out]
              exact ⟨rfl, rfl⟩
            · have hs2 : finS s.data.toList = n := by rw [hs, if_neg (by rintro (h | h | h); exact hne h; exact h9 h; exact h1 h.2)]
              have HS := Lib.hid hs2
              have hb : ((s[0].toNat : Int) == 48) = true := by rw [h0]; rfl
              clear hs hs2 hz hne hhd h0 e0
              go_wp2
              go_ret
              rw [HS.out]
              exact ⟨rfl, rfl⟩
          · have e0 : s[0] ≠ 48 := fun e => h0 (by rw [e]; rfl)
            have hs2 : finS s.data.toList = n := by rw [hs, if_neg (by rintro (h | h | h); exact hne h; exact h9 h; exact e0 (by simpa using h.1))]
            have HS := Lib.hid hs2
            have hb : ((s[0].toNat : Int) == 48) = false := by rw [beq_eq_false_iff_ne]; omega
            clear hs hs2 hz hne hhd h0 e0
            go_wp2
            go_ret
            rw [HS.out]
            exact ⟨rfl, rfl⟩
end Go.Proofs.YtholpemmakdglaaDoor.Tx
