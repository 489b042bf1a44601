/- A tree that the law lets in is one that the thin package takes; its repeats. -/
import Derived.Test.YtholpemmakdglaaTYFnSyRepeatValid
namespace Go.Proofs.Ytholpemmakdglaa.PFnSyRepeatValid
open Go.RowKit Go.Proofs.YtholpemmakdglaaW.PrintWords Go.Proofs.YtholpemmakdglaaW.PrintLast Go.Proofs.YtholpemmakdglaaW.PrintMore
set_option linter.unusedVariables false
theorem sd_split {op fl : Int} {rs : List Int} {m0 m1 cp : Int} {nm : ByteArray} {ts : List Tr} {d : Int} (h : sdT ⟨op, fl, rs, m0, m1, cp, nm, ts⟩ d = true) : 0 ≤ d ∧ ndF op rs m0 m1 ts.length = true ∧ sdL ts d = true := by
  rw [sdT] at h
  by_cases h1 : d < 0
  · rw [if_pos h1] at h; cases h
  rw [if_neg h1] at h
  by_cases h2 : ndF op rs m0 m1 ts.length = true
  · rw [if_pos h2] at h; exact ⟨by omega, h2, h⟩
  · rw [if_neg h2] at h; cases h
theorem sdL_split {t : Tr} {ts : List Tr} {d : Int} (h : sdL (t :: ts) d = true) : sdT t (wrap64 (d - 1)) = true ∧ sdL ts d = true := by
  rw [sdL] at h
  by_cases h1 : sdT t (wrap64 (d - 1)) = true
  · rw [if_pos h1] at h; exact ⟨h1, h⟩
  · rw [if_neg h1] at h; cases h
theorem step_bd {acc s : Int} (h0 : 0 ≤ acc) (h1 : acc ≤ 2001) (h2 : 0 ≤ s) (h3 : s ≤ 2001) : 0 ≤ mn (wrap64 (acc + s)) (wrap64 (2000 + 1)) ∧ mn (wrap64 (acc + s)) (wrap64 (2000 + 1)) ≤ 2001 ∧ acc ≤ mn (wrap64 (acc + s)) (wrap64 (2000 + 1)) ∧ (mn (wrap64 (acc + s)) (wrap64 (2000 + 1)) ≤ 2000 → mn (wrap64 (acc + s)) (wrap64 (2000 + 1)) = acc + s) := by
  have hw : wrap64 (2000 + 1) = 2001 := by unfold wrap64; omega
  have hw1 : wrap64 (acc + s) = acc + s := by unfold wrap64; omega
  rw [hw, hw1]
  obtain ⟨a, b, c⟩ := mn_le (acc + s) 2001
  exact ⟨by omega, by omega, by omega, fun _ => by omega⟩
mutual
theorem size_ok : ∀ (t : Tr) (d : Int), szT t → d ≤ 100 → sdT t d = true → 0 ≤ sizeT t 2000 ∧ sizeT t 2000 ≤ 2001 ∧ (sizeT t 2000 ≤ 2000 → wgT t ≤ sizeT t 2000 ∧ 2 * (ncT t : Int) ≤ sizeT t 2000)
  | ⟨op, fl, rs, m0, m1, cp, nm, ts⟩, d, hz, hd, hs => by
    obtain ⟨d0, hnd, hsl⟩ := sd_split hs
    rw [szT] at hz
    obtain ⟨a0, a1, _, a2⟩ := sizeL_ok ts d 0 hz.2.2 d0 hd hsl (by omega) (by omega)
    have h3 : op = 3 → sizeL ts 2000 0 = 0 := fun h3 => by
      have := nd_lit hnd h3
      have : ts = [] := List.length_eq_zero_iff.1 this
      subst this
      rw [sizeL]
    have hrep := nd_rep hnd
    rw [sizeT, wgT, ncT]
    obtain ⟨b0, b1, b2⟩ := sizeE_bd op rs.length m0 m1 ts.length (sizeL ts 2000 0) hz.1 hz.2.1 a0 a1 (fun h => by have := hrep h; omega) h3
    refine ⟨b0, b1, fun hle => ?_⟩
    obtain ⟨c1, c2⟩ := b2 hle
    obtain ⟨e1, e2⟩ := a2 (by omega)
    have e1' := e1 1
    have hw1 := wgL_ge ts 1
    refine ⟨?_, by omega⟩
    by_cases h17 : op = 17
    · have hX := c2 h17
      obtain ⟨r0, r1, r2, r3, _⟩ := hrep h17
      have hf : facT op m0 m1 ≤ mx (mx (m0 + 1) m1) 1 := by
        unfold facT
        rw [if_pos h17]
        obtain ⟨x1, x2, x3⟩ := mx_ge (mx (m0 + 1) m1) 1
        obtain ⟨y1, y2, y3⟩ := mx_ge (m0 + 1) m1
        obtain ⟨z1, z2, z3⟩ := mx_ge (mx m1 m0) 1
        obtain ⟨u1, u2, u3⟩ := mx_ge m1 m0
        omega
      have hf1 := facT_ge op m0 m1
      have : wgL ts 1 * facT op m0 m1 ≤ (sizeL ts 2000 0 + 1) * mx (mx (m0 + 1) m1) 1 := Int.mul_le_mul (by omega) hf (by omega) (by omega)
      omega
    · have : facT op m0 m1 = 1 := by unfold facT; rw [if_neg h17]
      rw [this]
      omega
theorem sizeL_ok : ∀ (ts : List Tr) (d acc : Int), szL ts → 0 ≤ d → d ≤ 100 → sdL ts d = true → 0 ≤ acc → acc ≤ 2001 → 0 ≤ sizeL ts 2000 acc ∧ sizeL ts 2000 acc ≤ 2001 ∧ acc ≤ sizeL ts 2000 acc ∧
    (sizeL ts 2000 acc ≤ 2000 → (∀ a, wgL ts a ≤ a + (sizeL ts 2000 acc - acc)) ∧ 2 * (ncL ts : Int) ≤ sizeL ts 2000 acc - acc)
  | [], d, acc, hz, h0, hd, hs, ha, ha1 => by
    rw [sizeL, ncL]
    exact ⟨by omega, by omega, by omega, fun _ => ⟨fun a => by rw [wgL]; omega, by simp⟩⟩
  | t :: ts, d, acc, hz, h0, hd, hs, ha, ha1 => by
    obtain ⟨hs1, hs2⟩ := sdL_split hs
    rw [szL] at hz
    have hw : wrap64 (d - 1) = d - 1 := by unfold wrap64; omega
    rw [hw] at hs1
    obtain ⟨b0, b1, b2⟩ := size_ok t (d - 1) hz.1 (by omega) hs1
    rw [sizeL, ncL]
    obtain ⟨s0, s1, s2, s3⟩ := step_bd ha ha1 b0 b1
    obtain ⟨c0, c1, c2, c3⟩ := sizeL_ok ts d _ hz.2 h0 hd hs2 s0 s1
    refine ⟨c0, c1, by omega, fun hle => ?_⟩
    obtain ⟨e1, e2⟩ := c3 hle
    have hm := s3 (by omega)
    obtain ⟨f1, f2⟩ := b2 (by omega)
    refine ⟨fun a => ?_, by omega⟩
    rw [wgL]
    have := e1 (a + wgT t)
    omega
end
mutual
theorem gd_ok : ∀ (t : Tr) (d : Int) (h : Nat), szT t → d ≤ 100 → sdT t d = true → (h : Int) + d ≤ 101 → cpT 1000 t → sizeT t 2000 ≤ 2000 → gdT t h
  | ⟨op, fl, rs, m0, m1, cp, nm, ts⟩, d, h, hz, hd, hs, hh, hc, hle => by
    have hsz := (size_ok ⟨op, fl, rs, m0, m1, cp, nm, ts⟩ d hz hd hs).2.2 hle
    obtain ⟨d0, hnd, hsl⟩ := sd_split hs
    rw [szT] at hz
    rw [cpT] at hc
    obtain ⟨a0, a1, _, a2⟩ := sizeL_ok ts d 0 hz.2.2 d0 hd hsl (by omega) (by omega)
    have h3 : op = 3 → sizeL ts 2000 0 = 0 := fun h3 => by
      have := nd_lit hnd h3
      have : ts = [] := List.length_eq_zero_iff.1 this
      subst this
      rw [sizeL]
    have hrep := nd_rep hnd
    have hle' := hle
    rw [sizeT] at hle'
    obtain ⟨b0, b1, b2⟩ := sizeE_bd op rs.length m0 m1 ts.length (sizeL ts 2000 0) hz.1 hz.2.1 a0 a1 (fun h => by have := hrep h; omega) h3
    have c1 := (b2 hle').1
    have hw := hsz.1
    rw [wgT] at hw
    rw [gdT]
    exact ⟨by omega, snd_of hnd hc.1, fun h => by have := hrep h; omega, by omega, gdL_ok ts d (h + 1) 0 hz.2.2 d0 hd hsl (by omega) hc.2 (by omega) (by omega) (by omega)⟩
theorem gdL_ok : ∀ (ts : List Tr) (d : Int) (h : Nat) (acc : Int), szL ts → 0 ≤ d → d ≤ 100 → sdL ts d = true → (h : Int) + d ≤ 102 → cpL 1000 ts → 0 ≤ acc → acc ≤ 2001 → sizeL ts 2000 acc ≤ 2000 → gdL ts h
  | [], d, h, acc, _, _, _, _, _, _, _, _, _ => by rw [gdL]; trivial
  | t :: ts, d, h, acc, hz, h0, hd, hs, hh, hc, ha, ha1, hle => by
    obtain ⟨hs1, hs2⟩ := sdL_split hs
    rw [szL] at hz
    rw [cpL] at hc
    have hw : wrap64 (d - 1) = d - 1 := by unfold wrap64; omega
    rw [hw] at hs1
    obtain ⟨b0, b1, b2⟩ := size_ok t (d - 1) hz.1 (by omega) hs1
    rw [sizeL] at hle
    obtain ⟨s0, s1, s2, s3⟩ := step_bd ha ha1 b0 b1
    obtain ⟨c0, c1, c2, c3⟩ := sizeL_ok ts d _ hz.2 h0 hd hs2 s0 s1
    have hm := s3 (by omega)
    rw [gdL]
    exact ⟨gd_ok t (d - 1) h hz.1 (by omega) hs1 (by omega) hc.1 (by omega), gdL_ok ts d h _ hz.2 h0 hd hs2 hh hc.2 s0 s1 hle⟩
end
/-- A tree that the law lets in. -/
theorem sy_good {t : Tr} (hz : szT t) (h : syT t = true) : gdT t 1 ∧ ncT t ≤ 50000 := by
  unfold syT at h
  simp only [Bool.and_eq_true, decide_eq_true_eq] at h
  obtain ⟨⟨h1, h2⟩, h3⟩ := h
  have hs := (size_ok t 100 hz (by omega) h1).2.2 h3
  have hn : (ncT t : Int) ≤ 1000 := by omega
  have hc := (caps_ok 1000 (by omega) t 1 (by omega) (by omega) (by omega)).1
  exact ⟨gd_ok t 100 1 hz (by omega) h1 (by omega) hc h3, by omega⟩
/-! The look at the repeats. -/
theorem copL_bd : ∀ (ts : List Tr) (acc n : Int), copL ts acc ≤ n ↔ acc ≤ n ∧ ∀ t ∈ ts, copT t ≤ n
  | [], acc, n => by rw [copL]; simp
  | t :: ts, acc, n => by
    rw [copL, copL_bd ts]
    obtain ⟨x1, x2, x3⟩ := mx_ge acc (copT t)
    simp only [List.mem_cons, forall_eq_or_imp]
    constructor
    · rintro ⟨h1, h2⟩; exact ⟨by omega, by omega, h2⟩
    · rintro ⟨h1, h2, h3⟩; exact ⟨by omega, h3⟩
theorem rvL_iff : ∀ (ts : List Tr) (n : Int), rvL ts n = true ↔ ∀ t ∈ ts, rvT t n = true
  | [], n => by rw [rvL]; simp
  | t :: ts, n => by
    rw [rvL, Bool.and_eq_true, rvL_iff ts]
    simp
theorem copT_le (t : Tr) : copT t ≤ 1001 := by
  obtain ⟨op, fl, rs, m0, m1, cp, nm, ts⟩ := t
  rw [copT]
  split
  · omega
  · exact (mn_le _ _).2.1
theorem copL_le : ∀ (ts : List Tr) (acc : Int), acc ≤ 1001 → copL ts acc ≤ 1001 := fun ts acc h => (copL_bd ts acc 1001).2 ⟨h, fun t _ => copT_le t⟩
theorem copL_ge : ∀ (ts : List Tr) (acc : Int), acc ≤ copL ts acc := fun ts acc => ((copL_bd ts acc _).1 (Int.le_refl _)).1
theorem rv_step {m n L : Int} {ts : List Tr} (hm : m ≤ 1000) (hp : 0 < m) (l0 : 1 ≤ L) (l1 : L ≤ 1001) (h1 : 1 ≤ n) (hn : n ≤ 1000) (IH : ∀ n', 1 ≤ n' → n' ≤ 1000 → (rvL ts n' = true ↔ L ≤ n')) :
    (if n < m then false else rvL ts (n / m)) = true ↔ mn (wrap64 (m * L)) 1001 ≤ n := by
  have hp0 : m * 1 ≤ m * L := Int.mul_le_mul_of_nonneg_left l0 (by omega)
  have hp1 : m * L ≤ 1000 * 1001 := Int.mul_le_mul hm l1 (by omega) (by omega)
  have hw : wrap64 (m * L) = m * L := by unfold wrap64; omega
  rw [hw]
  obtain ⟨a, b, c⟩ := mn_le (m * L) 1001
  by_cases hlt : n < m
  · rw [if_pos hlt]
    constructor
    · intro h; cases h
    · intro h; omega
  · rw [if_neg hlt]
    have d1 : 1 ≤ n / m := (Int.le_ediv_iff_mul_le hp).2 (by omega)
    have d2 : n / m ≤ n := Int.ediv_le_self _ (by omega)
    rw [IH (n / m) d1 (by omega), Int.le_ediv_iff_mul_le hp, Int.mul_comm L m]
    constructor
    · intro h; omega
    · intro h; omega
mutual
theorem rv_cop : ∀ (t : Tr) (h : Nat) (n : Int), gdT t h → 1 ≤ n → n ≤ 1000 → (rvT t n = true ↔ copT t ≤ n)
  | ⟨op, fl, rs, m0, m1, cp, nm, ts⟩, h, n, hg, h1, hn => by
    rw [gdT] at hg
    obtain ⟨_, _, hm, _, hgl⟩ := hg
    have l1 := copL_le ts 1 (by omega)
    have l0 := copL_ge ts 1
    have IH := fun n' (a : 1 ≤ n') (b : n' ≤ 1000) => rvL_cop ts (h + 1) n' hgl a b
    rw [rvT, copT]
    generalize copL ts 1 = L at *
    unfold cntT
    by_cases h17 : op = 17
    · obtain ⟨r0, r1, r2, r3⟩ := hm h17
      rw [if_pos h17, if_pos h17]
      by_cases hz : m1 = 0
      · rw [if_pos hz, if_neg (show ¬ m1 < 0 by omega), if_pos hz]
        simp; omega
      rw [if_neg hz]
      by_cases hneg : m1 < 0
      · rw [if_pos hneg, if_pos hneg]
        obtain ⟨x1, x2, x3⟩ := mx_ge m0 1
        rw [if_neg (show ¬ mx m0 1 = 0 by omega)]
        by_cases hp : 0 < m0
        · have hmx : mx m0 1 = m0 := by omega
          rw [hmx, if_pos hp]
          exact rv_step r1 hp l0 l1 h1 hn IH
        · have hmx : mx m0 1 = 1 := by omega
          rw [hmx, if_neg (show ¬ n < m0 by omega), if_neg hp, Int.one_mul]
          have hw : wrap64 L = L := by unfold wrap64; omega
          rw [hw, IH n h1 hn]
          obtain ⟨a, b, c⟩ := mn_le L 1001
          omega
      · rw [if_neg hneg, if_neg hneg, if_neg hz, if_pos (show 0 < m1 by omega)]
        exact rv_step r3 (by omega) l0 l1 h1 hn IH
    · rw [if_neg h17, if_neg h17, if_neg (by decide : ¬ (1 : Int) = 0), Int.one_mul]
      have hw : wrap64 L = L := by unfold wrap64; omega
      rw [hw, IH n h1 hn]
      obtain ⟨a, b, c⟩ := mn_le L 1001
      omega
theorem rvL_cop : ∀ (ts : List Tr) (h : Nat) (n : Int), gdL ts h → 1 ≤ n → n ≤ 1000 → (rvL ts n = true ↔ copL ts 1 ≤ n)
  | [], h, n, hg, h1, hn => by rw [rvL, copL]; simp; omega
  | t :: ts, h, n, hg, h1, hn => by
    rw [gdL] at hg
    have a := rv_cop t h n hg.1 h1 hn
    have b := rvL_cop ts h n hg.2 h1 hn
    rw [rvL, Bool.and_eq_true, a, b, copL_bd, copL_bd]
    simp only [List.mem_cons, forall_eq_or_imp]
    constructor
    · rintro ⟨x, y, z⟩; exact ⟨y, x, z⟩
    · rintro ⟨x, y, z⟩; exact ⟨y, x, z⟩
end
end Go.Proofs.Ytholpemmakdglaa.PFnSyRepeatValid
