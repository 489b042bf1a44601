/- FnSyEscape answers true at every text. -/
import Derived.Test.YtholpemmakdglaaDoorEscZ
namespace Go.Proofs.YtholpemmakdglaaDoor.Esc
open Go.RowKit Go.Lib Tx
set_option linter.unusedVariables false
theorem esc_any (s : ByteArray) (b : Nat) (w : World) (h : Rd w b s 0 0) (hk : 1 ≤ s.size) (hm : s.size ≤ 1000) :
    Calls Tryd.prog 41 #[.pointer (some ⟨b, 0, none⟩)] w (HexPost (esc s) s b w) := by
  by_cases h1 : s.size = 1
  · exact esc_short s b w h hk hm h1
  have h1 : 1 < s.size := by omega
  cases hb : bad s 1
  · obtain ⟨c, hc⟩ : ∃ c, (Utf8.decode s 1).1 = c := ⟨_, rfl⟩
    by_cases hx : c = 120
    · subst hx
      exact esc_hex s b w h hk hm h1 hb hc
    · by_cases h8 : 48 ≤ c ∧ c ≤ 55
      · by_cases ho : c = 48 ∨ octal s (1 + (Utf8.decode s 1).2) = true
        · exact esc_oct s b w h hk hm h1 hb c hc h8 ho
        · exact esc_octno s b w h hk hm h1 hb c hc (by omega) (by
            cases e : octal s (1 + (Utf8.decode s 1).2) with
            | false => rfl
            | true => exact absurd (Or.inr e) ho)
      · by_cases hl : ∃ r, (c, r) ∈ [(97, (7 : Int)), (102, 12), (110, 10), (114, 13), (116, 9), (118, 11)]
        · obtain ⟨r, hr⟩ := hl
          exact esc_let s b w h hk hm h1 hb c hc r hr
        · have hne : ∀ x ∈ [48, 120, 97, 102, 110, 114, 116, 118], c ≠ x := fun x hx e => by
            subst e
            simp only [List.mem_cons, List.not_mem_nil, or_false] at hx
            simp only [List.mem_cons, List.not_mem_nil, or_false, Prod.mk.injEq, not_exists] at hl
            rcases hx with h | h | h | h | h | h | h | h
            all_goals first
              | omega
              | (subst h; first | (refine hl 7 ?_; decide) | (refine hl 12 ?_; decide) | (refine hl 10 ?_; decide) | (refine hl 13 ?_; decide) | (refine hl 9 ?_; decide) | (refine hl 11 ?_; decide))
          by_cases h128 : 128 ≤ c
          · exact esc_hi s b w h hk hm h1 hb c hc hne h128
          · exact esc_lo s b w h hk hm h1 hb c hc hne (by omega) (by omega)
  · exact esc_bad s b w h hk hm h1 hb
def HerePost (a : Int × Nat × Int) (s : ByteArray) (w : World) (e : Ending) (w' : World) : Prop :=
  Below w.heap.size w w' ∧
  if a.2.2 = 0 then e = .returned (.tuple #[.int .i32 a.1, .string (s.extract a.2.1 s.size), .int .i64 0])
  else e = .returned (.tuple #[.int .i32 0, .string ByteArray.empty, .int .i64 a.2.2])
set_option maxRecDepth 100000 in
set_option maxHeartbeats 1000000 in
theorem here_c (s : ByteArray) (w : World) (hk : 1 ≤ s.size) (hm : s.size ≤ 1000) :
    Calls Tryd.prog 21 #[.string s] w (HerePost (esc s) s w) := by
  have hR : Rd (w.alloc (.cells #[.string s, .int .i64 0, .int .i64 0, .int .i64 0, .slice none 0 0, .int .i64 0, .int .i64 0, .int .i64 0, .bool false] 68)) w.heap.size s 0 0 :=
    ⟨by simp, by simp, by simp, by simp, by simp, by simp⟩
  have hB : Below w.heap.size w (w.alloc (.cells #[.string s, .int .i64 0, .int .i64 0, .int .i64 0, .slice none 0 0, .int .i64 0, .int .i64 0, .int .i64 0, .bool false] 68)) := (Below.refl _ _).alloc (Nat.le_refl _) _
  have hsz : w.heap.size ≤ (w.alloc (.cells #[.string s, .int .i64 0, .int .i64 0, .int .i64 0, .slice none 0 0, .int .i64 0, .int .i64 0, .int .i64 0, .bool false] 68)).heap.size := by simp
  have CE := Lib.hid (esc_any s _ _ hR hk hm)
  have HB := Lib.hid hB
  have HSZ := Lib.hid hsz
  have hP : ∀ (A : Int × Nat × Int) e w', (Below w.heap.size w w' ∧ if A.2.2 = 0 then e = .returned (.tuple #[.int .i32 A.1, .string (s.extract A.2.1 s.size), .int .i64 0]) else e = .returned (.tuple #[.int .i32 0, .string ByteArray.empty, .int .i64 A.2.2])) → HerePost A s w e w' := fun A e w' h => h
  clear hR hB hsz
  generalize esc s = A at *
  have HP := Lib.hid (hP A)
  clear hP
  go_enter Tryd.func21, Tryd.ntmps21
  go_wp2_with fail
  refine CE.out.mono ?_
  rintro e w2 ⟨r, k', rfl, ⟨hR2, hg2⟩, hv, hk'⟩
  have h5 := hR2.e5
  have h1 := hR2.a1
  have HBW := Lib.hid (HB.out.grown hg2 HSZ.out (fun k hk => by injection hk with hk; omega))
  have HV := Lib.hid hv
  clear hR2 hg2 hv HB HSZ CE
  have hkz : (k' : Int) ≤ (s.size : Int) := by omega
  by_cases hA : A.2.2 = 0
  · obtain ⟨hr, hk2⟩ := HV.out hA
    have HA := Lib.hid hA; have HRR := Lib.hid hr; have HK2 := Lib.hid hk2
    have hz : (A.2.2 != 0) = false := by rw [hA]; rfl
    clear hA hr hk2
    go_wp2_with fail
    go_quiet (fail)
    go_wp2
    go_ret3
    refine HP.out _ _ ⟨below_dn HBW.out _, ?_⟩
    rw [if_pos HA.out, ← HK2.out, ← HRR.out]
    rfl
  · have HA := Lib.hid hA
    have hz : (A.2.2 != 0) = true := by simpa using hA
    clear hA
    go_wp2_with fail
    go_quiet (fail)
    go_wp2
    go_ret3
    refine HP.out _ _ ⟨below_dn HBW.out _, ?_⟩
    rw [if_neg HA.out]
    rfl
theorem esc_n : esc ⟨#[92, 110]⟩ = (10, 2, 0) := by decide +kernel
set_option maxRecDepth 100000 in
set_option maxHeartbeats 2000000 in
theorem sel_any (s : ByteArray) (w : World) (hT : U8 w) :
    Calls Tryd.prog 7 #[.string s] w fun e w' => e = .returned (.bool true) ∧ Below w.heap.size w w' := by
  by_cases hbig : 2147483647 < s.size
  · clear hT
    go_enter Tryd.func7, Tryd.ntmps7
    go_wp2
    go_ret
    exact ⟨rfl, Below.refl _ _⟩
  by_cases hm : s.size ≤ 1000
  · by_cases h0 : s.size = 0
    · have hem := toList_empty h0
      clear h0 hT
      go_enter Tryd.func7, Tryd.ntmps7
      go_wp2
      go_ret
      exact ⟨rfl, Below.refl _ _⟩
    · have hem := toList_full h0
      have h1 : 1 ≤ s.size := by omega
      have h0z : (0 : Int) < (s.size : Int) := by omega
      have h00 : 0 < s.size := by omega
      clear h0
      by_cases h92 : s[0].toNat = 92
      · have hb : ((s[0].toNat : Int) != 92) = false := by rw [h92]; rfl
        have C1 : Hid (Calls Tryd.prog 21 #[.string s] w (HerePost (esc s) s w)) := Lib.hid (here_c s w h1 hm)
        have C2 : Hid (∀ w1, Below w.heap.size w w1 → Calls Tryd.prog 22 #[.string s] w1 (SyPost (esc s) s w1)) := Lib.hid fun w1 h => sy_esc s w1 h1 h92 hm (Utf8Tabs_below hT h)
        have C3 : Hid (∀ w1, Below w.heap.size w w1 → Calls Tryd.prog 22 #[.string ⟨#[92, 110]⟩] w1 fun e w' => Below w1.heap.size w1 w' ∧ ∃ rs, e = .returned (.tuple #[.int .i32 10, .string rs, .int .i64 0, .string ByteArray.empty])) := Lib.hid fun w1 h => (sy_esc ⟨#[92, 110]⟩ w1 (by decide) (by decide) (by decide) (Utf8Tabs_below hT h)).mono fun e w' hp => by
          rw [esc_n] at hp
          exact ⟨hp.1, _, hp.2⟩
        clear hT h92
        generalize esc s = A at *
        by_cases hA : A.2.2 = 0
        · have HA := Lib.hid hA
          clear hA
          go_enter Tryd.func7, Tryd.ntmps7
          go_wp2_with fail
          refine C1.out.mono ?_
          rintro e w1 ⟨hb1, hr⟩
          rw [if_pos HA.out] at hr
          subst hr
          have HB1 := Lib.hid hb1; clear hb1
          go_wp2_with fail
          refine (C2.out _ HB1.out).mono ?_
          rintro e w2 ⟨hb2, hr⟩
          rw [if_pos HA.out] at hr
          subst hr
          have HB2 := Lib.hid (HB1.out.trans (hb2.mono HB1.out.size)); clear hb2
          go_wp2_with fail
          refine (C3.out _ HB2.out).mono ?_
          rintro e w3 ⟨hb3, rs, rfl⟩
          have HB3 := Lib.hid (HB2.out.trans (hb3.mono HB2.out.size)); clear hb3
          go_wp2
          go_ret
          exact ⟨rfl, HB3.out⟩
        · have HA := Lib.hid hA
          have hz : (A.2.2 != 0) = true := by simpa using hA
          clear hA
          go_enter Tryd.func7, Tryd.ntmps7
          go_wp2_with fail
          refine C1.out.mono ?_
          rintro e w1 ⟨hb1, hr⟩
          rw [if_neg HA.out] at hr
          subst hr
          have HB1 := Lib.hid hb1; clear hb1
          go_wp2_with fail
          refine (C2.out _ HB1.out).mono ?_
          rintro e w2 ⟨hb2, hr⟩
          rw [if_neg HA.out] at hr
          obtain ⟨ex, rfl⟩ := hr
          have HB2 := Lib.hid (HB1.out.trans (hb2.mono HB1.out.size)); clear hb2
          go_wp2_with fail
          refine (C3.out _ HB2.out).mono ?_
          rintro e w3 ⟨hb3, rs, rfl⟩
          have HB3 := Lib.hid (HB2.out.trans (hb3.mono HB2.out.size)); clear hb3
          go_wp2
          go_ret
          exact ⟨rfl, HB3.out⟩
      · have hb : ((s[0].toNat : Int) != 92) = true := by rw [bne_iff_ne]; omega
        clear h92 hT
        go_enter Tryd.func7, Tryd.ntmps7
        go_wp2
        go_ret
        exact ⟨rfl, Below.refl _ _⟩
  · have hm' : 1000 < s.size := by omega
    clear hm hT
    go_enter Tryd.func7, Tryd.ntmps7
    go_wp2
    go_ret
    exact ⟨rfl, Below.refl _ _⟩
end Go.Proofs.YtholpemmakdglaaDoor.Esc
