/- The plain law: at each place where a way begins that ends, the text at the program's head stands; and ways end behind it if it is all. The thin package's SyPrefix: the walk. A program for "ab" alone: its literal prefix, as the thin package tells it. At each place where a way begins that ends the literal prefix stands: the law's walk. A program handed in, as the printed texts read it. Where the library's two tables of UTF-8 read as Go's text lays them, the walk's facts on them hold. -/
import Derived.Test.YtmgdlodnhmpbiaaDoorPsA4FnSyPrefix
import Derived.Test.YtmgdlodnhmpbiaaDoorPsA3FnSyPrefix
import Derived.Lib.TrimUEq
import Derived.Test.YtmgdlodnhmpbiaaDoorPsA2FnSyPrefix
import Derived.Test.YtmgdlodnhmpbiaaDoorPsA1FnSyPrefix
import Derived.ChangeSlices
import Derived.DataReads
import Derived.OpenShut
import Derived.Deep.Slices
import Derived.Test.YtmgdlodnhmpbiaaDoorShelfP
import Derived.Test.YtmgdlodnhmpbiaaDoorRows
import Derived.Lib.LaidU8
import Derived.Lib.LaidTab
import Derived.PinnedBridge
namespace Go.Proofs.YtmgdlodnhmpbiaaDoor.Ps
open Go.RowKit Mem Go.Proofs.YtmgdlodnhmpbiaaDoor.Fold Go.Proofs.YtmgdlodnhmpbiaaDoor.PFnSyPrefix Go.Proofs.YtmgdlodnhmpbiaaDoorW.PrintWords Go.Proofs.YtmgdlodnhmpbiaaDoorW.PrintLast Go.Proofs.YtmgdlodnhmpbiaaDoorW.PrintMore
set_option linter.unusedVariables false
set_option linter.unusedSimpArgs false
/-- What is known of a sound program. -/
structure SP (L : List In) (ncap : Int) (start : Nat) : Prop where
  way : WayOk L
  fail : (inAt L 0).f0 = 5
  lt : start < L.length
  n0 : 2 ≤ ncap
  n1 : ncap ≤ 2002
  rg : ∀ i, i < L.length → 0 ≤ (inAt L i).f0 ∧ (inAt L i).f0 ≤ 255 ∧ (((inAt L i).f0 ≠ 4 ∧ (inAt L i).f0 ≠ 5) → 0 ≤ (inAt L i).f1 ∧ (inAt L i).f1 ≤ 2147483647) ∧ (inAt L i).f3.length ≤ 2147483647
  fit : ∀ i, i < L.length → ∃ k, impl_fitInst.f k (inAt L i).f0 (inAt L i).f1 (inAt L i).f2 (inAt L i).f3 L start ncap = some true
  loops : ∃ k, impl_loops.f k L start ncap = some false
  circ : ∀ pc, pc < L.length → circB L.length L pc = false
  inst : ∀ pc, pc < L.length → instB L ncap (inAt L pc) = true
theorem ev_ex {α : Type} {g : Nat → Option α} {r : α} (h : Ev g r) : ∃ k, g k = some r := by
  obtain ⟨K, hK⟩ := h
  exact ⟨K, hK K (Nat.le_refl _)⟩
theorem sp_of {L : List In} {st ncap : Int} (hz : zzB L = true) (h : sndB L st ncap = true) : ∃ start : Nat, st = start ∧ SP L ncap start := by
  have hz' := zz_of hz
  simp only [sndB, Bool.and_eq_true, decide_eq_true_eq] at h
  obtain ⟨⟨⟨⟨⟨⟨⟨h0, h5⟩, hf⟩, ht⟩, n0⟩, n1⟩, _⟩, hall, hr⟩ := h
  simp only [toB, decide_eq_true_eq] at ht
  have hO := out_of hall
  have hi : ∀ pc, pc < L.length → instB L ncap (inAt L pc) = true := fun pc hp => List.all_eq_true.1 hall _ (in_getD hp)
  have hl : ∀ pc, pc < L.length → (inAt L pc).f3.length ≤ 2147483647 := fun pc hp => hz' _ (in_getD hp)
  have hc : ∀ pc, pc < L.length → circB L.length L pc = false := fun pc hp => by
    have := List.all_eq_true.1 hr pc (by rw [List.mem_range'_1]; omega)
    simpa using this
  have hop : ∀ pc, pc < L.length → 0 ≤ (inAt L pc).f0 ∧ (inAt L pc).f0 ≤ 10 := fun pc hp => by
    have h := hi pc hp
    generalize inAt L pc = I at h
    unfold instB instR at h
    refine Decidable.byContradiction fun hn => ?_
    rw [if_neg (by omega)] at h
    rw [if_neg (by omega), if_neg (by omega), if_neg (by omega), if_neg (by omega), if_neg (by omega), if_neg (by omega), if_neg (by omega), if_neg (by omega)] at h
    simp at h
  refine ⟨st.toNat, by omega, ⟨⟨hO, h5, h0, hl, fun pc hp h8 => ?_, fun pc hp n4 n8 n9 n10 hw hlen => ?_⟩, hf, by omega, n0, n1, fun i hil => ⟨(hop i hil).1, by have := (hop i hil).2; omega, fun h45 => ?_, hl i hil⟩, fun i hil => ?_, ?_, hc, hi⟩⟩
  · have h := hi pc hp
    generalize inAt L pc = I at *
    unfold instB instR at h
    rw [if_neg (by omega), if_neg (by omega), if_neg (by omega), if_neg (by omega), if_neg (by omega), if_neg (by omega), if_neg (by omega), if_pos h8] at h
    simp only [Bool.and_eq_true, decide_eq_true_eq] at h
    omega
  · have h := hi pc hp
    have hw' := wait_f (inAt L pc)
    rw [hw] at hw'
    generalize inAt L pc = I at *
    by_cases h45 : I.f0 = 4 ∨ I.f0 = 5
    · unfold spec_progWaits.f at hw'
      simp [h45.resolve_left n4] at hw'
    · unfold instB instR at h
      rw [if_neg h45] at h
      unfold spec_progWaits.f at hw'
      have a0 : ¬ I.f0 = 0 := fun e => by simp [e] at hw'
      have a2 : ¬ I.f0 = 2 := fun e => by simp [e] at hw'
      have a6 : ¬ I.f0 = 6 := fun e => by simp [e] at hw'
      have a3 : ¬ I.f0 = 3 := fun e => by simp [e] at hw'
      rw [if_neg a0, if_neg a2, if_neg a3, if_neg a6, if_neg n9, if_neg n10, if_neg n8] at h
      split at h
      · simp only [Bool.and_eq_true, Bool.or_eq_true, decide_eq_true_eq] at h
        rcases h.2 with ⟨_, hr⟩ | ⟨_, hr⟩
        · unfold runesF at hr
          rw [if_pos hlen, rd0] at hr
          simp only [Bool.and_eq_true, decide_eq_true_eq] at hr
          exact per_any _ hr.1 hr.2
        · have := clsF_odd _ _ hr
          omega
      · simp at h
  · have := (hO i hil).1
    omega
  · exact ev_ex (fit_ev L _ ncap _ (by have := hl i hil; unfold Fits; omega) (hi i hil))
  · exact ev_ex (loops_f _ ncap hO h5 hc)
/-! The package's program. -/
theorem cvt0 (I : In) : (cvt I).f0 = I.f0 := by unfold cvt; split <;> rfl
theorem cvt1 {I : In} (h : I.f0 ≠ 4 ∧ I.f0 ≠ 5) : (cvt I).f1 = I.f1 ∧ (cvt I).f2 = IntKind.u32.wrap I.f2 ∧ (cvt I).f3 = I.f3 := by
  unfold cvt
  rw [if_neg (by omega)]
  exact ⟨rfl, rfl, rfl⟩
theorem at_cvt {L : List In} {pc : Nat} (hp : pc < L.length) : inAt (L.map cvt) pc = cvt (inAt L pc) := by
  simp [inAt, List.getD_eq_getElem?_getD, hp]
section
variable {L : List In} {ncap : Int} {start : Nat} (S : SP L ncap start)
include S
theorem SP.kout : OutOk (L.map cvt) := fun pc hp => by
  rw [List.length_map] at hp ⊢
  rw [at_cvt hp, cvt0]
  have ho := S.way.out pc hp
  have hl := S.way.len
  by_cases h45 : (inAt L pc).f0 = 4 ∨ (inAt L pc).f0 = 5
  · exact ⟨by omega, fun h => by omega⟩
  · obtain ⟨e1, e2, e3⟩ := cvt1 (I := inAt L pc) (by omega)
    rw [e1, e2]
    refine ⟨ho.1, fun h0 => ?_⟩
    have := ho.2 h0
    rw [show IntKind.u32.wrap (inAt L pc).f2 = (inAt L pc).f2 by rw [IntKind.wrap_u32]; omega]
    exact this
/-- The text at the head goes on only with an instruction of one character. -/
theorem SP.rune {pc : Nat} (hp : pc < L.length) (h : runeB (inAt (L.map cvt) pc) = true) : (inAt L pc).f0 = 8 ∧ (inAt (L.map cvt) pc).f3.getD 0 0 = (inAt L pc).f3.getD 0 0 ∧ 0 ≤ (inAt L pc).f3.getD 0 0 ∧ (inAt L pc).f3.getD 0 0 ≤ 1114111 ∧ (inAt L pc).f3.getD 0 0 ≠ 65533 ∧ (inAt (L.map cvt) pc).f1 = (inAt L pc).f1 := by
  rw [at_cvt hp] at h ⊢
  have hi := S.inst pc hp
  generalize inAt L pc = I at *
  simp only [runeB, Bool.and_eq_true, decide_eq_true_eq, beq_iff_eq, bne_iff_ne, cvt0] at h
  obtain ⟨⟨⟨hop, hl⟩, hbt⟩, hne⟩ := h
  obtain ⟨e1, e2, e3⟩ := cvt1 (I := I) (by omega)
  rw [e3] at hl hne
  rw [e2] at hbt
  rw [e1, e3]
  unfold instB instR at hi
  rw [if_neg (by omega), if_neg (by omega), if_neg (by omega), if_neg (by omega), if_neg (by omega)] at hi
  simp only [Bool.and_eq_true] at hi
  have hi := hi.2
  by_cases h9 : I.f0 = 9
  · rw [if_pos h9] at hi
    simp only [decide_eq_true_eq] at hi
    rcases hi with hi | hi
    · omega
    · rw [hi] at hl; simp at hl
  rw [if_neg h9] at hi
  by_cases h10 : I.f0 = 10
  · rw [if_pos h10] at hi
    simp only [decide_eq_true_eq] at hi
    rcases hi with hi | hi
    · omega
    · rw [hi] at hl; simp at hl
  rw [if_neg h10] at hi
  by_cases h8 : I.f0 = 8
  · rw [if_pos h8] at hi
    simp only [Bool.and_eq_true] at hi
    have hr := hi.2
    unfold runesF at hr
    rw [if_pos hl, rd0] at hr
    simp only [Bool.and_eq_true, decide_eq_true_eq] at hr
    exact ⟨h8, rfl, hr.1, hr.2, hne, rfl⟩
  · have h7 : I.f0 = 7 := by omega
    rw [if_neg h8, if_pos h7] at hi
    simp only [Bool.or_eq_true, Bool.and_eq_true, decide_eq_true_eq] at hi
    rcases hi with ⟨⟨e, _⟩, _⟩ | ⟨_, hc⟩
    · rw [e] at hbt
      exact absurd hbt (by decide)
    · have := clsF_odd _ _ hc
      omega
theorem SP.krange : ∀ pc, pc < (L.map cvt).length → runeB (inAt (L.map cvt) pc) = true → -2147483648 ≤ (inAt (L.map cvt) pc).f3.getD 0 0 ∧ (inAt (L.map cvt) pc).f3.getD 0 0 ≤ 2147483647 := fun pc hp h => by
  rw [List.length_map] at hp
  have := S.rune hp h
  omega
theorem SP.kout1 {pc : Nat} (hp : pc < L.length) (h : (inAt L pc).f0 ≠ 4 ∧ (inAt L pc).f0 ≠ 5) : (inAt (L.map cvt) pc).f1.toNat = (inAt L pc).f1.toNat ∧ (inAt L pc).f1.toNat < L.length := by
  rw [at_cvt hp, (cvt1 h).1]
  exact ⟨rfl, (out_nat S.way.out hp h).1⟩
omit S in
theorem SP.kop {pc : Nat} (hp : pc < L.length) : (inAt (L.map cvt) pc).f0 = (inAt L pc).f0 := by rw [at_cvt hp, cvt0]
theorem SP.skip : ∀ (n pc : Nat), circB n L pc = false → pc < L.length → ∃ q m, (∀ f, n ≤ f → skipF f (L.map cvt) pc = some q) ∧ m ≤ n ∧ circB m L q = false ∧ q < L.length ∧ (inAt L q).f0 ≠ 6 ∧ (inAt L q).f0 ≠ 2
  | 0, pc, h, hp => by simp [circB] at h
  | n + 1, pc, h, hp => by
    by_cases h62 : (inAt L pc).f0 = 6 ∨ (inAt L pc).f0 = 2
    · have ho := S.kout1 hp (by omega)
      obtain ⟨m', e, hc⟩ := circ_step h (by unfold stopB; omega)
      obtain rfl : m' = n := by omega
      obtain ⟨q, m, h1, h2, h3⟩ := SP.skip m' _ hc ho.2
      refine ⟨q, m, fun f hf => ?_, by omega, h3⟩
      obtain ⟨f, rfl⟩ : ∃ f', f = f' + 1 := ⟨f - 1, by omega⟩
      rw [skipF, SP.kop hp, if_pos h62, ho.1]
      exact h1 f (by omega)
    · refine ⟨pc, n + 1, fun f hf => ?_, Nat.le_refl _, h, hp, by omega⟩
      obtain ⟨f, rfl⟩ : ∃ f', f = f' + 1 := ⟨f - 1, by omega⟩
      rw [skipF, SP.kop hp, if_neg h62]
theorem SP.skipAll {pc : Nat} (hp : pc < L.length) : ∃ q, (∀ f, L.length ≤ f → skipF f (L.map cvt) pc = some q) ∧ q < L.length ∧ (inAt L q).f0 ≠ 6 ∧ (inAt L q).f0 ≠ 2 := by
  obtain ⟨q, m, h1, h2, h3, h4⟩ := S.skip L.length pc (S.circ pc hp) hp
  exact ⟨q, h1, h4⟩
theorem SP.chTot : ∀ (n m pc : Nat), circB m L pc = false → m ≤ n → n ≤ L.length → pc < L.length → ∃ x, chF n (L.map cvt) pc = some x
  | 0, m, pc, h, hm, _, hp => by
    obtain rfl : m = 0 := by omega
    simp [circB] at h
  | n + 1, m, pc, h, hm, hn, hp => by
    obtain ⟨q, m2, h1, h2, h3, h4, h5⟩ := S.skip m pc h hp
    rw [chF_succ, h1 _ (by rw [List.length_map]; omega), Option.bind_some]
    unfold chG
    split
    · rename_i hr
      have h8 := S.rune h4 hr
      have ho := S.kout1 h4 (by omega)
      obtain ⟨m3, e, hc⟩ := circ_step h3 (by unfold stopB; omega)
      obtain ⟨x, hx⟩ := SP.chTot n m3 _ hc (by omega) (by omega) ho.2
      rw [ho.1, hx]
      exact ⟨_, rfl⟩
    · exact ⟨_, rfl⟩
/-- At an instruction that does nothing the text at the head is that at the next one. -/
theorem SP.chNop {pc : Nat} (hp : pc < L.length) (h : (inAt L pc).f0 = 6 ∨ (inAt L pc).f0 = 2) (k : Nat) : chF k (L.map cvt) pc = chF k (L.map cvt) (inAt L pc).f1.toNat := by
  cases k with
  | zero => rfl
  | succ k =>
    have ho := S.kout1 hp (by omega)
    obtain ⟨q, h1, _⟩ := S.skipAll ho.2
    rw [chF_succ, chF_succ, h1 _ (by rw [List.length_map]; omega)]
    rw [skipF, SP.kop hp, if_pos h, ho.1, h1 _ (by rw [List.length_map]; omega)]
omit S in
theorem SP.chStop {pc : Nat} (hp : pc < L.length) (h : (inAt L pc).f0 ≠ 6 ∧ (inAt L pc).f0 ≠ 2) {k : Nat} {x : List Int × Bool} (hx : chF k (L.map cvt) pc = some x) : ∃ k', k = k' + 1 ∧ chG k' (L.map cvt) pc = some x := by
  cases k with
  | zero => simp [chF] at hx
  | succ k =>
    rw [chF_succ, skipF, SP.kop hp, if_neg (by omega), Option.bind_some] at hx
    exact ⟨k, rfl, hx⟩
end
/-! Ways. -/
theorem wait_op {I : In} (hw : waitB I = true) : ¬ I.f0 = 2 ∧ ¬ I.f0 = 6 := by
  have hw' := wait_f I
  rw [hw] at hw'
  unfold spec_progWaits.f at hw'
  exact ⟨fun e => by simp [e] at hw', fun e => by simp [e] at hw'⟩
theorem encL_append (a b : List Int) : encL (a ++ b) = encL a ++ encL b := by unfold encL; exact List.flatMap_append
theorem encL_one (r : Int) : encL [r] = Lib.encodeRune r := by unfold encL; rw [List.flatMap_cons, List.flatMap_nil, List.append_nil]
section
variable {L : List In} {ncap : Int} {start : Nat} (S : SP L ncap start) (s : ByteArray) (i : Nat) (RS : List Int) (C : Bool)
/-- An end of a way. -/
def EndOk (e : Nat) : Prop := encL RS <+: s.data.toList.drop i ∧ (C = true → e = i + (encL RS).length)
def OnW (K : List In) (j pc : Nat) : Prop := i ≤ j ∧ j ≤ s.size ∧ ∃ k rs1 rs2, chF k K pc = some (rs2, C) ∧ RS = rs1 ++ rs2 ∧ encL rs1 = (s.data.toList.drop i).take (j - i)
def OffW : Prop := C = false ∧ encL RS <+: s.data.toList.drop i
def InvW (L : List In) (j pc : Nat) : Prop := pc < L.length ∧ (OnW s i RS C (L.map cvt) j pc ∨ OffW s i RS C)
include S
omit S in
theorem size_drop (s : ByteArray) : s.data.toList.length = s.size := by rw [Array.length_toList]; rfl
omit S in
/-- Where no character comes next, all of the text at the head stands. -/
theorem SP.here {j pc : Nat} (hp : pc < L.length) (h : OnW s i RS C (L.map cvt) j pc) (h62 : (inAt L pc).f0 ≠ 6 ∧ (inAt L pc).f0 ≠ 2) (hr : runeB (inAt (L.map cvt) pc) = false) : encL RS <+: s.data.toList.drop i ∧ C = ((inAt L pc).f0 == 4) ∧ j = i + (encL RS).length := by
  obtain ⟨h1, h2, k, rs1, rs2, hc, hR, he⟩ := h
  obtain ⟨k', rfl, hg⟩ := SP.chStop hp h62 hc
  unfold chG at hg
  rw [hr] at hg
  simp only [Bool.false_eq_true, if_false, Option.some.injEq, Prod.mk.injEq, SP.kop hp] at hg
  obtain ⟨e1, e2⟩ := hg
  subst e1
  rw [List.append_nil] at hR
  subst hR
  refine ⟨?_, e2.symm, ?_⟩
  · rw [he]; exact List.take_prefix _ _
  · rw [he, List.length_take, List.length_drop, size_drop]
    omega
omit S in
theorem SP.inv_end {j pc : Nat} (h : InvW s i RS C L j pc) (h4 : (inAt L pc).f0 = 4) : EndOk s i RS C j := by
  obtain ⟨hp, h | h⟩ := h
  · have hr : runeB (inAt (L.map cvt) pc) = false := by
      unfold runeB
      rw [SP.kop hp, h4]
      rfl
    obtain ⟨h1, h2, h3⟩ := SP.here s i RS C hp h (by omega) hr
    exact ⟨h1, fun _ => h3⟩
  · exact ⟨h.2, fun e => by rw [h.1] at e; simp at e⟩
omit S in
theorem SP.inv_off {j pc : Nat} (hp : pc < L.length) (h : OnW s i RS C (L.map cvt) j pc) (h62 : (inAt L pc).f0 ≠ 6 ∧ (inAt L pc).f0 ≠ 2) (h4 : (inAt L pc).f0 ≠ 4) (hr : runeB (inAt (L.map cvt) pc) = false) : OffW s i RS C := by
  obtain ⟨h1, h2, h3⟩ := SP.here s i RS C hp h h62 hr
  exact ⟨by rw [h2]; simpa using h4, h1⟩
theorem SP.inv_eps (j : Nat) : ∀ pc, pc < L.length → pc ≠ 0 → InvW s i RS C L j pc → ((inAt L pc).f0 = 0 → InvW s i RS C L j (inAt L pc).f1.toNat ∧ InvW s i RS C L j (inAt L pc).f2.toNat) ∧ ((inAt L pc).f0 = 2 ∨ (inAt L pc).f0 = 6 ∨ (inAt L pc).f0 = 3 → InvW s i RS C L j (inAt L pc).f1.toNat) := fun pc hp _ h => by
  have nr : ∀ {a : Int}, (inAt L pc).f0 = a → ¬ (7 ≤ a ∧ a ≤ 10) → runeB (inAt (L.map cvt) pc) = false := fun {a} e hn => by
    have : ¬ (7 ≤ (inAt L pc).f0 ∧ (inAt L pc).f0 ≤ 10) := by omega
    unfold runeB
    rw [SP.kop hp, decide_eq_false this]
    rfl
  refine ⟨fun h0 => ?_, fun h263 => ?_⟩
  · have ho := out_nat S.way.out hp (by omega)
    have ha := arg_nat S.way.out hp h0
    have hoff : OffW s i RS C := by
      rcases h.2 with h | h
      · exact SP.inv_off s i RS C hp h (by omega) (by omega) (nr h0 (by omega))
      · exact h
    exact ⟨⟨ho.1, Or.inr hoff⟩, ⟨ha.1, Or.inr hoff⟩⟩
  · have ho := out_nat S.way.out hp (by omega)
    refine ⟨ho.1, ?_⟩
    rcases h.2 with h | h
    · by_cases h3 : (inAt L pc).f0 = 3
      · exact Or.inr (SP.inv_off s i RS C hp h (by omega) (by omega) (nr h3 (by omega)))
      · obtain ⟨h1, h2, k, rs1, rs2, hc, hR, he⟩ := h
        rw [S.chNop hp (by omega)] at hc
        exact Or.inl ⟨h1, h2, k, rs1, rs2, hc, hR, he⟩
    · exact Or.inr h
theorem SP.inv_char {j pc n : Nat} {c : Int} (hn : nextF s j = (c, n)) (h0 : 0 < n) (h4 : (inAt L pc).f0 ≠ 4) (hw : waitB (inAt L pc) = true) (ht : takesF (inAt L pc) c = true) (h : InvW s i RS C L j pc) : InvW s i RS C L (j + n) (inAt L pc).f1.toNat := by
  obtain ⟨hp, h⟩ := h
  have ho := wait_out S.way.out hp h4 hw
  refine ⟨ho.1, ?_⟩
  rcases h with h | h
  · have a2 := (wait_op hw).1
    have a6 := (wait_op hw).2
    cases hr : runeB (inAt (L.map cvt) pc) with
    | false => exact Or.inr (SP.inv_off s i RS C hp h ⟨a6, a2⟩ h4 hr)
    | true =>
      obtain ⟨h8, hk3, hlo, hhi, hne, hk1⟩ := S.rune hp hr
      obtain ⟨h1, h2, k, rs1, rs2, hc, hR, he⟩ := h
      obtain ⟨k', rfl, hg⟩ := SP.chStop hp ⟨a6, a2⟩ hc
      unfold chG at hg
      rw [if_pos hr, hk1, hk3] at hg
      obtain ⟨x, hx1, hx2⟩ := Option.map_eq_some_iff.1 hg
      obtain ⟨rs3, C3⟩ := x
      injection hx2 with e1 e2
      simp only at e1 e2
      subst e1
      subst e2
      unfold takesF at ht
      rw [if_pos h8] at ht
      have hcr : (inAt L pc).f3.getD 0 0 = c := by simpa using ht
      rw [hcr] at hR hne
      unfold nextF at hn
      split at hn
      · injection hn with _ hn; omega
      rename_i hlt
      injection hn with hn1 hn2
      have hfit := decode_fits s j (by omega)
      have hdd := Lib.decodeL_drop s j
      have hne' : s.data.toList.drop j ≠ [] := fun e => by
        have := List.drop_eq_nil_iff.1 e
        rw [size_drop] at this
        omega
      have hen := Lib.encode_decode (s.data.toList.drop j) hne' (fun hh => hne (by rw [← hn1, ← hdd, hh.1]; rfl))
      rw [hdd, hn1, hn2] at hen
      refine Or.inl ⟨by omega, by omega, k', rs1 ++ [c], rs3, hx1, by rw [hR]; simp, ?_⟩
      rw [encL_append, encL_one, hen, he]
      rw [show j + n - i = (j - i) + n by omega, List.take_add, List.drop_drop, show i + (j - i) = j by omega]
  · exact Or.inr h
theorem SP.inv_reach (k : Nat) (cond : Int) (j : Nat) : ∀ (ps l l' : List Nat), reachF k L cond ps l = some l' → (∀ x ∈ ps, InvW s i RS C L j x) → (∀ x ∈ l, InvW s i RS C L j x ∧ x ≠ 0) → ∀ x ∈ l', InvW s i RS C L j x ∧ x ≠ 0
  | [], l, l', h, _, hl => by
    obtain rfl := Option.some.inj h
    exact hl
  | pc :: ps, l, l', h, hp, hl => by
    simp only [reachF] at h
    obtain ⟨l1, h1, h2⟩ := Option.bind_eq_some_iff.1 h
    have hpc := hp pc (by simp)
    exact SP.inv_reach k cond j ps l1 l' h2 (fun x hx => hp x (by simp [hx])) (addF_all (InvW s i RS C L j) (S.inv_eps s i RS C j) S.way.out k l pc l1 h1 hpc.1 hpc hl)
theorem SP.inv_step {j n : Nat} {c : Int} (hn : nextF s j = (c, n)) : ∀ (l : List Nat) (st : List Nat × List Nat), (∀ x ∈ l, InvW s i RS C L j x) → (∀ e ∈ st.1, EndOk s i RS C e) → (∀ x ∈ st.2, InvW s i RS C L (j + n) x) →
    (∀ e ∈ (stepF L c n j l st).1, EndOk s i RS C e) ∧ (∀ x ∈ (stepF L c n j l st).2, InvW s i RS C L (j + n) x)
  | [], st, _, h1, h2 => ⟨h1, h2⟩
  | pc :: l, st, hl, h1, h2 => by
    simp only [stepF]
    have hpc := hl pc (by simp)
    have hl' : ∀ x ∈ l, InvW s i RS C L j x := fun x hx => hl x (by simp [hx])
    split
    · rename_i h4
      split
      · refine SP.inv_step hn l _ hl' (fun e he => ?_) h2
        rcases List.mem_append.1 he with he | he
        · exact h1 e he
        · simp at he; subst he; exact SP.inv_end s i RS C hpc h4
      · exact SP.inv_step hn l _ hl' h1 h2
    · rename_i h4
      split
      · rename_i hh
        refine SP.inv_step hn l _ hl' h1 (fun x hx => ?_)
        rcases List.mem_append.1 hx with hx | hx
        · exact h2 x hx
        · simp at hx; subst hx; exact S.inv_char s i RS C hn hh.1 h4 hh.2.1 hh.2.2 hpc
      · exact SP.inv_step hn l _ hl' h1 h2
theorem SP.inv_ends : ∀ (F : Nat) (pcs : List Nat) (last : Int) (j : Nat) (out OUT : List Nat), endsF L s F pcs last j out = some OUT → (∀ x ∈ pcs, InvW s i RS C L j x) → (∀ e ∈ out, EndOk s i RS C e) → ∀ e ∈ OUT, EndOk s i RS C e
  | 0, pcs, last, j, out, OUT, h, _, _ => by simp [endsF] at h
  | F + 1, pcs, last, j, out, OUT, h, hp, hout => by
    simp only [endsF] at h
    split at h
    · obtain rfl := Option.some.inj h
      exact hout
    · obtain ⟨cond, _, h⟩ := Option.bind_eq_some_iff.1 h
      obtain ⟨l, hl, h⟩ := Option.bind_eq_some_iff.1 h
      have hr := S.inv_reach s i RS C _ cond j pcs [] l hl hp (by simp)
      obtain ⟨c, n, hn⟩ : ∃ c n, nextF s j = (c, n) := ⟨_, _, rfl⟩
      rw [hn] at h
      have hs := S.inv_step s i RS C hn l (out, []) (fun x hx => (hr x hx).1) hout (by simp)
      exact SP.inv_ends F _ _ _ _ OUT h hs.2 hs.1
/-- The law: all ends of ways from a place. -/
theorem SP.ends_ok {k : Nat} (hi : i ≤ s.size) (hc : chF k (L.map cvt) start = some (RS, C)) {F : Nat} {last : Int} {OUT : List Nat} (h : endsF L s F [start] last i [] = some OUT) : ∀ e ∈ OUT, EndOk s i RS C e :=
  S.inv_ends s i RS C F [start] last i [] OUT h (fun x hx => by
    simp at hx
    subst hx
    exact ⟨S.lt, Or.inl ⟨Nat.le_refl _, hi, k, [], RS, hc, rfl, by rw [Nat.sub_self]; rfl⟩⟩) (by simp)
theorem SP.step_lt {c : Int} {n j : Nat} : ∀ (l : List Nat) (st : List Nat × List Nat), (∀ x ∈ l, x < L.length) → (∀ x ∈ st.2, x < L.length) → ∀ x ∈ (stepF L c n j l st).2, x < L.length
  | [], st, _, h2 => h2
  | pc :: l, st, hl, h2 => by
    simp only [stepF]
    have hpc := hl pc (by simp)
    have hl' : ∀ x ∈ l, x < L.length := fun x hx => hl x (by simp [hx])
    split
    · split
      · exact SP.step_lt l _ hl' h2
      · exact SP.step_lt l _ hl' h2
    · rename_i h4
      split
      · rename_i hh
        refine SP.step_lt l _ hl' (fun x hx => ?_)
        rcases List.mem_append.1 hx with hx | hx
        · exact h2 x hx
        · simp at hx; subst hx; exact (wait_out S.way.out hpc h4 hh.2.1).1
      · exact SP.step_lt l _ hl' h2
omit S in
theorem step_zero {c : Int} {j : Nat} : ∀ (l : List Nat) (st : List Nat × List Nat), (stepF L c 0 j l st).2 = st.2
  | [], st => rfl
  | pc :: l, st => by
    simp only [stepF]
    rw [step_zero l]
    split
    · split <;> rfl
    · rw [if_neg (by omega)]
theorem SP.ends_tot : ∀ (F : Nat) (pcs : List Nat) (last : Int) (j : Nat) (out : List Nat), j ≤ s.size → s.size - j + 2 ≤ F → (∀ x ∈ pcs, x < L.length) → ∃ OUT, endsF L s F pcs last j out = some OUT
  | 0, _, _, _, _, _, h, _ => by omega
  | F + 1, pcs, last, j, out, hj, hF, hp => by
    simp only [endsF]
    by_cases hpc : pcs = []
    · exact ⟨out, by rw [if_pos hpc]⟩
    · rw [if_neg hpc]
      obtain ⟨cond, hc⟩ := cond_f last (nextF s j).1
      obtain ⟨l, hl, hg⟩ := reachF_some cond S.way.out (L.length + 1) (by omega) pcs [] ⟨List.nodup_nil, by simp⟩ hp
      rw [hc, Option.bind_some, hl, Option.bind_some]
      obtain ⟨c, n, hn⟩ : ∃ c n, nextF s j = (c, n) := ⟨_, _, rfl⟩
      rw [hn]
      have hle := next_le hj hn
      by_cases h0 : n = 0
      · subst h0
        obtain ⟨F, rfl⟩ : ∃ F', F = F' + 1 := ⟨F - 1, by omega⟩
        simp only [endsF, step_zero, if_true]
        exact ⟨_, rfl⟩
      · exact SP.ends_tot F _ _ (j + n) _ hle (by omega) (S.step_lt l _ hg.2 (by simp))
end
end Go.Proofs.YtmgdlodnhmpbiaaDoor.Ps
namespace Go.Proofs.YtmgdlodnhmpbiaaDoor.Ps
open Go.RowKit Mem Go.Proofs.YtmgdlodnhmpbiaaDoor.PFnSyPrefix Go.Proofs.YtmgdlodnhmpbiaaDoorW.PrintWords Go.Proofs.YtmgdlodnhmpbiaaDoorW.PrintLast Go.Proofs.YtmgdlodnhmpbiaaDoorW.PrintMore
set_option linter.unusedVariables false
section
variable (L : List In) (A : Option Addr) (cap : Nat) (start : Nat) (ncap : Int)
set_option maxRecDepth 100000 in
set_option maxHeartbeats 4000000 in
theorem syPrefix_c (w : World) (hK : k43.C w A L.length L) (hcap : L.length ≤ cap) (S : SP L ncap start) (k : Nat) (RS : List Int) (C : Bool) (hc : chF k (L.map cvt) start = some (RS, C)) (hk : k ≤ 100000) :
    Calls Tryd.prog 14 #[.agg #[.slice A L.length cap, .int .i64 start, .int .i64 ncap]] w fun e w' => ∃ t : ByteArray, e = .returned (.tuple #[.string t, .bool C, .bool true]) ∧ t.data.toList = encL RS ∧ Below w.heap.size w w' := by
  obtain ⟨kl, hl⟩ := S.loops
  have CP : Hid (∀ W, Below w.heap.size w W → Calls Tryd.prog 31 #[.agg #[.slice A L.length cap, .int .i64 start, .int .i64 ncap]] W fun e w' => ∃ bP g cI R, e = .returned (.tuple #[.pointer (some ⟨bP, 0, none⟩), .bool true]) ∧ PF W w' bP start ncap (.slice (some ⟨g, 0, none⟩) (L.map cvt).length cI) R (L.map cvt)) :=
    Lib.hid fun W hb => (progFor_c L A cap start ncap W (Kd.C_below hK hb) hcap S.way.len S.way.pos S.lt S.n0 S.n1 S.fail S.rg S.fit kl hl).mono fun e w' h => by
      obtain ⟨bP, vI, R, rfl, hp⟩ := h
      obtain ⟨g, c, rfl⟩ := hp.form (by rw [List.length_map]; exact S.way.pos)
      exact ⟨bP, g, c, R, rfl, hp⟩
  have CQ : Hid (∀ W w1 bP g cI R, PF W w1 bP start ncap (.slice (some ⟨g, 0, none⟩) (L.map cvt).length cI) R (L.map cvt) → Calls Tryd.prog 32 #[.pointer (some ⟨bP, 0, none⟩)] w1 fun e w' => ∃ t : ByteArray, e = .returned (.tuple #[.string t, .bool C]) ∧ t.data.toList = encL RS ∧ Below w1.heap.size w1 w') :=
    Lib.hid fun W w1 bP g cI R hp => prefix_c (L.map cvt) W bP start ncap g cI R w1 hp S.kout (by rw [List.length_map]; exact S.way.len) (by rw [List.length_map]; exact S.lt) S.krange k RS C hc hk
  clear hK hcap S hc hl
  go_enter Tryd.func14, Tryd.ntmps14
  have HB1 := Lib.hid ((Below.refl w.heap.size w).alloc (Nat.le_refl _) (.cells #[.slice A L.length cap, .int .i64 start, .int .i64 ncap] 36))
  go_wp2_with (first
    | (go_at_call 31; refine (Calls.mono (CP.out _ HB1.out) ?_); rintro e w1 ⟨bP, g, cI, R, rfl, hp⟩; have HP := Lib.hid hp; have HB2 := Lib.hid (HB1.out.trans (hp.bel.mono HB1.out.size)); clear hp)
    | (go_at_call 32; refine (Calls.mono (CQ.out _ _ _ _ _ _ HP.out) ?_); rintro e w2 ⟨t, rfl, ht, hb2⟩; have HT := Lib.hid ht; have HB3 := Lib.hid (HB2.out.trans (hb2.mono HB2.out.size)); clear ht hb2))
  refine bodyPost_ret (v := .tuple #[.string t, .bool C, .bool true]) (by simp [results, Tryd.results14, go_sem]; try rfl) rfl ?_
  exact ⟨t, rfl, HT.out, HB3.out⟩
end
end Go.Proofs.YtmgdlodnhmpbiaaDoor.Ps
namespace Go.Proofs.YtmgdlodnhmpbiaaDoor.Ps
open Go.RowKit Mem Go.Proofs.YtmgdlodnhmpbiaaDoor.PFnSyPrefix Go.Proofs.YtmgdlodnhmpbiaaDoorW.PrintWords Go.Proofs.YtmgdlodnhmpbiaaDoorW.PrintLast Go.Proofs.YtmgdlodnhmpbiaaDoorW.PrintMore
set_option linter.unusedVariables false
def labL : List In := [⟨5, 0, 0, []⟩, ⟨8, 2, 0, [97]⟩, ⟨8, 3, 0, [98]⟩, ⟨4, 0, 0, []⟩]
def labC (a b : Nat) : Array Value := #[.int .i64 5, .int .i64 0, .int .i64 0, .slice none 0 0, .int .i64 8, .int .i64 2, .int .i64 0, .slice (some ⟨a, 0, none⟩) 1 1, .int .i64 8, .int .i64 3, .int .i64 0, .slice (some ⟨b, 0, none⟩) 1 1, .int .i64 4, .int .i64 0, .int .i64 0, .slice none 0 0]
theorem lab_snd : sndB labL 1 2 = true := by decide
theorem lab_zz : zzB labL = true := by decide
theorem lab_ch : chF 4 (labL.map cvt) 1 = some ([97, 98], true) := by decide +kernel
theorem lab_enc : encL [97, 98] = [97, 98] := by decide +kernel
theorem lab_one (w : World) (a : Nat) (z : Int) (t : TypeId) (h : w.heap[a]? = some (.cells #[.int .i32 z] t (0, 0))) : (Kd.int .i32).C w (some ⟨a, 0, none⟩) 1 [z] := by
  refine ⟨rfl, by decide, fun _ => ⟨⟨a, 0, none⟩, rfl, fun j p hj => ?_⟩⟩
  have hj0 : j = 0 := by
    rcases Nat.lt_or_ge j 1 with h | h
    · omega
    · rw [List.getElem?_eq_none (by simpa using h)] at hj; cases hj
  subst hj0
  simp at hj
  subst hj
  refine ⟨[.int .i32 z], rfl, rfl, fun i u hu => ?_⟩
  have hi : i = 0 := by
    cases i with
    | zero => rfl
    | succ i => simp at hu
  subst hi
  simp at hu
  subst hu
  show w.cell? ⟨a, 0, none⟩ = _
  rw [cell_of_row w a 0 _ _ _ h]; rfl
theorem lab_nil (w : World) : (Kd.int .i32).C w none 0 [] := ⟨rfl, by decide, fun h => absurd h (by decide)⟩
theorem lab_C (w : World) (a b g : Nat) (t t2 : TypeId) (ha : w.heap[a]? = some (.cells #[.int .i32 97] t (0, 0))) (hb : w.heap[b]? = some (.cells #[.int .i32 98] t (0, 0))) (hg : w.heap[g]? = some (.cells (labC a b) t2 (0, 0))) : k43.C w (some ⟨g, 0, none⟩) 4 labL := by
  refine ⟨rfl, by decide, fun _ => ⟨⟨g, 0, none⟩, rfl, fun j p hj => ?_⟩⟩
  have cell : ∀ i u, (labC a b)[i]? = some u → w.cell? ⟨g, i, none⟩ = some u := fun i u hu => by rw [cell_of_row w g i _ _ _ hg]; exact hu
  have h4 : j < 4 := by
    rcases Nat.lt_or_ge j 4 with h | h
    · exact h
    · rw [List.getElem?_eq_none (by simpa [labL] using h)] at hj; cases hj
  rcases (show j = 0 ∨ j = 1 ∨ j = 2 ∨ j = 3 by omega) with rfl | rfl | rfl | rfl
  · obtain rfl : (⟨5, 0, 0, []⟩ : In) = p := by simpa [labL] using hj
    refine ⟨_, rfl, k43_mk w ⟨5, 0, 0, []⟩ (A3 := none) (c3 := 0) (by simp) (lab_nil w), fun i u hu => ?_⟩
    have hi : i < 4 := by
      rcases Nat.lt_or_ge i 4 with h | h
      · exact h
      · rw [List.getElem?_eq_none (by simpa using h)] at hu; cases hu
    rcases (show i = 0 ∨ i = 1 ∨ i = 2 ∨ i = 3 by omega) with rfl | rfl | rfl | rfl
    all_goals exact cell _ u (by rw [← hu]; rfl)
  · obtain rfl : (⟨8, 2, 0, [97]⟩ : In) = p := by simpa [labL] using hj
    refine ⟨_, rfl, k43_mk w ⟨8, 2, 0, [97]⟩ (A3 := some ⟨a, 0, none⟩) (c3 := 1) (by simp) (lab_one w a 97 t ha), fun i u hu => ?_⟩
    have hi : i < 4 := by
      rcases Nat.lt_or_ge i 4 with h | h
      · exact h
      · rw [List.getElem?_eq_none (by simpa using h)] at hu; cases hu
    rcases (show i = 0 ∨ i = 1 ∨ i = 2 ∨ i = 3 by omega) with rfl | rfl | rfl | rfl
    all_goals exact cell _ u (by rw [← hu]; rfl)
  · obtain rfl : (⟨8, 3, 0, [98]⟩ : In) = p := by simpa [labL] using hj
    refine ⟨_, rfl, k43_mk w ⟨8, 3, 0, [98]⟩ (A3 := some ⟨b, 0, none⟩) (c3 := 1) (by simp) (lab_one w b 98 t hb), fun i u hu => ?_⟩
    have hi : i < 4 := by
      rcases Nat.lt_or_ge i 4 with h | h
      · exact h
      · rw [List.getElem?_eq_none (by simpa using h)] at hu; cases hu
    rcases (show i = 0 ∨ i = 1 ∨ i = 2 ∨ i = 3 by omega) with rfl | rfl | rfl | rfl
    all_goals exact cell _ u (by rw [← hu]; rfl)
  · obtain rfl : (⟨4, 0, 0, []⟩ : In) = p := by simpa [labL] using hj
    refine ⟨_, rfl, k43_mk w ⟨4, 0, 0, []⟩ (A3 := none) (c3 := 0) (by simp) (lab_nil w), fun i u hu => ?_⟩
    have hi : i < 4 := by
      rcases Nat.lt_or_ge i 4 with h | h
      · exact h
      · rw [List.getElem?_eq_none (by simpa using h)] at hu; cases hu
    rcases (show i = 0 ∨ i = 1 ∨ i = 2 ∨ i = 3 by omega) with rfl | rfl | rfl | rfl
    all_goals exact cell _ u (by rw [← hu]; rfl)
theorem str_of {t u : ByteArray} (h : t.data.toList = u.data.toList) : t = u := by
  obtain ⟨⟨l⟩⟩ := t
  obtain ⟨⟨m⟩⟩ := u
  simp only at h
  rw [h]
/-- The literal prefix of the program for "ab" alone. -/
theorem lab_c (w : World) (a b g : Nat) (t t2 : TypeId) (ha : w.heap[a]? = some (.cells #[.int .i32 97] t (0, 0))) (hb : w.heap[b]? = some (.cells #[.int .i32 98] t (0, 0))) (hg : w.heap[g]? = some (.cells (labC a b) t2 (0, 0))) :
    Calls Tryd.prog 14 #[.agg #[.slice (some ⟨g, 0, none⟩) 4 4, .int .i64 1, .int .i64 2]] w fun e w' => e = .returned (.tuple #[.string ⟨#[97, 98]⟩, .bool true, .bool true]) ∧ Below w.heap.size w w' := by
  obtain ⟨start, hst, S⟩ := sp_of lab_zz lab_snd
  obtain rfl : start = 1 := by omega
  refine (syPrefix_c labL (some ⟨g, 0, none⟩) 4 1 2 w (lab_C w a b g t t2 ha hb hg) (by decide) S 4 [97, 98] true lab_ch (by omega)).mono fun e w' h => ?_
  obtain ⟨t', rfl, ht, hb⟩ := h
  rw [lab_enc] at ht
  obtain rfl : t' = ⟨#[97, 98]⟩ := str_of ht
  exact ⟨rfl, hb⟩
end Go.Proofs.YtmgdlodnhmpbiaaDoor.Ps
namespace Go.Proofs.YtmgdlodnhmpbiaaDoor.Ps
open Go.RowKit Mem Go.Proofs.YtmgdlodnhmpbiaaDoor.Fold Go.Proofs.YtmgdlodnhmpbiaaDoor.PFnSyPrefix Go.Proofs.YtmgdlodnhmpbiaaDoorW.PrintWords Go.Proofs.YtmgdlodnhmpbiaaDoorW.PrintLast Go.Proofs.YtmgdlodnhmpbiaaDoorW.PrintMore
set_option linter.unusedVariables false
theorem end_size {s t : ByteArray} {i : Nat} {RS : List Int} {C : Bool} {e : Nat} (h : EndOk s i RS C e) (hi : i ≤ s.size) (ht : t.data.toList = encL RS) : i + t.size ≤ s.size ∧ s.extract i (i + t.size) = t ∧ (C = true → e = i + t.size) := by
  obtain ⟨h1, h2⟩ := h
  have htz : (encL RS).length = t.size := by rw [← ht, Array.length_toList]; rfl
  have hl := h1.length_le
  rw [List.length_drop, size_drop, htz] at hl
  refine ⟨by omega, str_of ?_, fun hc => by rw [← htz]; exact h2 hc⟩
  rw [ByteArray.data_extract, Array.toList_extract, ht]
  rw [List.extract_eq_take_drop, show i + t.size - i = t.size by omega, ← htz]
  obtain ⟨l, hl⟩ := h1
  rw [← hl, List.take_left]
theorem box3 {w : World} {b : Nat} {v0 v1 v2 : Value} {t : TypeId} (h : w.heap[b]? = some (.cells #[v0, v1, v2] t (0, 0))) : w.cell? ⟨b, 0, none⟩ = some v0 ∧ w.cell? ⟨b, 1, none⟩ = some v1 ∧ w.cell? ⟨b, 2, none⟩ = some v2 :=
  ⟨by rw [cell_of_row w b 0 _ _ _ h]; rfl, by rw [cell_of_row w b 1 _ _ _ h]; rfl, by rw [cell_of_row w b 2 _ _ _ h]; rfl⟩
theorem slice_lh (W : World) (i j : Nat) (s t : ByteArray) (h : s.extract i j = t) (h1 : i ≤ j) (h2 : j ≤ s.size) : Sem.run Tryd.prog (Instr.slice 9 (.string s) (some (.int .i64 (i : Int))) (some (.int .i64 (j : Int))) none) W = .ok (.string t) W := by
  have ht := Tryd.underlying9
  subst h
  simp [Instr.slice, run_underlying ht, Instr.sliceBounds, run_sliceBound, h1, h2]
theorem step_len {L : List In} {c : Int} {n j : Nat} : ∀ (l : List Nat) (st : List Nat × List Nat), (stepF L c n j l st).1.length ≤ st.1.length + l.length
  | [], st => by simp [stepF]
  | pc :: l, st => by
    simp only [stepF]
    refine Nat.le_trans (step_len l _) ?_
    split
    · split
      · simp; omega
      · simp
    · split <;> simp
theorem SP.ends_len {L : List In} {ncap : Int} {start : Nat} (S : SP L ncap start) (s : ByteArray) : ∀ (F : Nat) (pcs : List Nat) (last : Int) (j : Nat) (out OUT : List Nat), endsF L s F pcs last j out = some OUT → (∀ x ∈ pcs, x < L.length) → OUT.length ≤ out.length + 500 * F
  | 0, pcs, last, j, out, OUT, h, _ => by simp [endsF] at h
  | F + 1, pcs, last, j, out, OUT, h, hp => by
    simp only [endsF] at h
    split at h
    · obtain rfl := Option.some.inj h
      omega
    · obtain ⟨cond, _, h⟩ := Option.bind_eq_some_iff.1 h
      obtain ⟨l, hl, h⟩ := Option.bind_eq_some_iff.1 h
      have hg := reachF_good S.way.out (L.length + 1) pcs [] l hl ⟨List.nodup_nil, by simp⟩ hp
      have hll := hg.len
      have hL := S.way.len
      have h1 := SP.ends_len S s F _ _ _ _ OUT h (S.step_lt l _ hg.2 (by simp))
      have h2 := step_len (L := L) (c := (nextF s j).1) (n := (nextF s j).2) (j := j) l (out, [])
      simp only at h2
      omega
theorem size1 (w : World) (o : Obj) : (w.alloc o).heap.size = w.heap.size + 1 := by simp
/-- The program for "ab", laid out behind what there is. -/
def labW (W : World) : World := ((W.alloc (.cells #[.int .i32 97] 21)).alloc (.cells #[.int .i32 98] 21)).alloc (.cells (labC W.heap.size (W.heap.size + 1)) 43)
theorem lab_at (W : World) : Calls Tryd.prog 14 #[.agg #[.slice (some ⟨W.heap.size + 2, 0, none⟩) 4 4, .int .i64 1, .int .i64 2]] (((W.alloc (.cells #[.int .i32 97] 21)).alloc (.cells #[.int .i32 98] 21)).alloc (.cells (labC W.heap.size (W.heap.size + 1)) 43))
    fun e w' => e = .returned (.tuple #[.string ⟨#[97, 98]⟩, .bool true, .bool true]) ∧ Below (((W.alloc (.cells #[.int .i32 97] 21)).alloc (.cells #[.int .i32 98] 21)).alloc (.cells (labC W.heap.size (W.heap.size + 1)) 43)).heap.size (((W.alloc (.cells #[.int .i32 97] 21)).alloc (.cells #[.int .i32 98] 21)).alloc (.cells (labC W.heap.size (W.heap.size + 1)) 43)) w' := by
  refine lab_c _ W.heap.size (W.heap.size + 1) (W.heap.size + 2) 21 43 (Mem.blk_old (Mem.blk_old (Mem.blk_new W _) _) _) (Mem.blk_old ?_ _) ?_
  · have := Mem.blk_new (W.alloc (.cells #[.int .i32 97] 21)) (.cells #[.int .i32 98] 21)
    rw [size1] at this
    exact this
  · have := Mem.blk_new ((W.alloc (.cells #[.int .i32 97] 21)).alloc (.cells #[.int .i32 98] 21)) (.cells (labC W.heap.size (W.heap.size + 1)) 43)
    rw [size1, size1] at this
    exact this
section
variable (L : List In) (A : Option Addr) (cap : Nat) (st ncap : Int) (s : ByteArray)
set_option maxRecDepth 100000 in
set_option maxHeartbeats 8000000 in
theorem law_c (w : World) {B0 : Nat} (hF : FoldV B0 w) (hB0 : B0 ≤ w.heap.size) (hU : Lib.Utf8Tabs 0 1 w) (hK : k43.C w A L.length L) (hcap : L.length ≤ cap) :
    Calls Tryd.prog 4 #[.agg #[.slice A L.length cap, .int .i64 st, .int .i64 ncap], .string s] w fun e w' => e = .returned (.bool true) ∧ Below w.heap.size w w' := by
  have hfz : ∀ I ∈ L, Fits I.f3.length := fun I hI => by
    obtain ⟨j, hj, rfl⟩ := List.getElem_of_mem hI
    obtain ⟨bI, oI, A3, c3, _, _, _, _, _, _, g3⟩ := elem4 hK hj
    have := g3.2.1
    rw [show inAt L j = L[j] by simp [inAt, List.getD_eq_getElem?_getD, hj]] at this
    exact this
  obtain ⟨kz, hkz⟩ := ev_ex (zz_ev L st ncap)
  obtain ⟨ks, hks⟩ := ev_ex (snd_ev L st ncap hfz)
  have HB1 := Lib.hid ((Below.refl w.heap.size w).alloc (Nat.le_refl _) (.cells #[.slice A L.length cap, .int .i64 st, .int .i64 ncap] 36))
  have HX1 := Lib.hid (Mem.blk_new w (.cells #[.slice A L.length cap, .int .i64 st, .int .i64 ncap] 36))
  have CZ : Hid (∀ W, Below w.heap.size w W → Calls Tryd.prog 12 #[.agg #[.slice A L.length cap, .int .i64 st, .int .i64 ncap]] W fun e w' => e = .returned (.bool (zzB L)) ∧ Below W.heap.size W w') :=
    Lib.hid fun W hb => (laws_zzFits3.calls kz A cap L st ncap _ W (Kd.C_below hK hb) hcap hkz).mono fun e w' h => ⟨h.1, by first | exact h.2 | exact h.2.below⟩
  have CS : Hid (∀ W, Below w.heap.size w W → Calls Tryd.prog 13 #[.agg #[.slice A L.length cap, .int .i64 st, .int .i64 ncap], .int .i64 500] W fun e w' => e = .returned (.bool (sndB L st ncap)) ∧ Below W.heap.size W w') :=
    Lib.hid fun W hb => (spec_ProgSound.calls ks A cap L st ncap 500 _ W (Kd.C_below hK hb) hcap hks).mono fun e w' h => ⟨h.1, by first | exact h.2 | exact h.2.below⟩
  clear hkz hks hfz
  have HZ : Hid (zzB L = true → sndB L st ncap = true → ∃ start : Nat, st = start ∧ SP L ncap start) := Lib.hid sp_of
  generalize zzB L = zb at *
  generalize sndB L st ncap = sb at *
  by_cases hs : s.size ≤ 2147483647
  rotate_left
  · have hs1 : decide ((2147483647 : Int) < (s.size : Int)) = true := decide_eq_true (by omega)
    have hs2 : decide (2147483647 < s.size) = true := decide_eq_true (by omega)
    clear CS HZ hs
    cases zb with
    | false =>
      go_enter Tryd.func4, Tryd.ntmps4
      go_wp2_with (go_at_call 12; refine (Calls.mono (CZ.out _ HB1.out) ?_); rintro e w2 ⟨rfl, hb2⟩; have HB2 := Lib.hid (HB1.out.trans (hb2.mono HB1.out.size)); have HX2 := Lib.hid ((hb2.block _ (lt_of_block HX1.out)).trans HX1.out); clear hb2; (try clear k0 k1 k2); obtain ⟨k0, k1, k2⟩ := box3 HX2.out)
      go_ret
      exact ⟨rfl, HB2.out⟩
    | true =>
      go_enter Tryd.func4, Tryd.ntmps4
      go_wp2_with (go_at_call 12; refine (Calls.mono (CZ.out _ HB1.out) ?_); rintro e w2 ⟨rfl, hb2⟩; have HB2 := Lib.hid (HB1.out.trans (hb2.mono HB1.out.size)); have HX2 := Lib.hid ((hb2.block _ (lt_of_block HX1.out)).trans HX1.out); clear hb2; (try clear k0 k1 k2); obtain ⟨k0, k1, k2⟩ := box3 HX2.out)
      go_ret
      exact ⟨rfl, HB2.out⟩
  have hs1 : decide ((2147483647 : Int) < (s.size : Int)) = false := decide_eq_false (by omega)
  have hs2 : decide (2147483647 < s.size) = false := decide_eq_false (by omega)
  cases zb with
  | false =>
    clear hs CS HZ
    go_enter Tryd.func4, Tryd.ntmps4
    go_wp2_with (go_at_call 12; refine (Calls.mono (CZ.out _ HB1.out) ?_); rintro e w2 ⟨rfl, hb2⟩; have HB2 := Lib.hid (HB1.out.trans (hb2.mono HB1.out.size)); have HX2 := Lib.hid ((hb2.block _ (lt_of_block HX1.out)).trans HX1.out); clear hb2; (try clear k0 k1 k2); obtain ⟨k0, k1, k2⟩ := box3 HX2.out)
    go_ret
    exact ⟨rfl, HB2.out⟩
  | true =>
  by_cases hs3 : s.size ≤ 300
  rotate_left
  · have hs4 : decide ((300 : Int) < (s.size : Int)) = true := decide_eq_true (by omega)
    have hs5 : decide (300 < s.size) = true := decide_eq_true (by omega)
    clear HZ hs hs3
    cases sb with
    | false =>
      go_enter Tryd.func4, Tryd.ntmps4
      go_wp2_with (first
        | (go_at_call 12; refine (Calls.mono (CZ.out _ HB1.out) ?_); rintro e w2 ⟨rfl, hb2⟩; have HB2 := Lib.hid (HB1.out.trans (hb2.mono HB1.out.size)); have HX2 := Lib.hid ((hb2.block _ (lt_of_block HX1.out)).trans HX1.out); clear hb2; (try clear k0 k1 k2); obtain ⟨k0, k1, k2⟩ := box3 HX2.out)
        | (go_at_call 13; refine (Calls.mono (CS.out _ HB2.out) ?_); rintro e w3 ⟨rfl, hb3⟩; have HB3 := Lib.hid (HB2.out.trans (hb3.mono HB2.out.size)); have HX3 := Lib.hid ((hb3.block _ (lt_of_block HX2.out)).trans HX2.out); clear hb3; (try clear k0 k1 k2); obtain ⟨k0, k1, k2⟩ := box3 HX3.out))
      go_ret
      exact ⟨rfl, HB3.out⟩
    | true =>
      go_enter Tryd.func4, Tryd.ntmps4
      go_wp2_with (first
        | (go_at_call 12; refine (Calls.mono (CZ.out _ HB1.out) ?_); rintro e w2 ⟨rfl, hb2⟩; have HB2 := Lib.hid (HB1.out.trans (hb2.mono HB1.out.size)); have HX2 := Lib.hid ((hb2.block _ (lt_of_block HX1.out)).trans HX1.out); clear hb2; (try clear k0 k1 k2); obtain ⟨k0, k1, k2⟩ := box3 HX2.out)
        | (go_at_call 13; refine (Calls.mono (CS.out _ HB2.out) ?_); rintro e w3 ⟨rfl, hb3⟩; have HB3 := Lib.hid (HB2.out.trans (hb3.mono HB2.out.size)); have HX3 := Lib.hid ((hb3.block _ (lt_of_block HX2.out)).trans HX2.out); clear hb3; (try clear k0 k1 k2); obtain ⟨k0, k1, k2⟩ := box3 HX3.out))
      go_ret
      exact ⟨rfl, HB3.out⟩
  have hs4 : decide ((300 : Int) < (s.size : Int)) = false := decide_eq_false (by omega)
  have hs5 : decide (300 < s.size) = false := decide_eq_false (by omega)
  cases sb with
  | false =>
    clear hs HZ hs3
    go_enter Tryd.func4, Tryd.ntmps4
    go_wp2_with (first
        | (go_at_call 12; refine (Calls.mono (CZ.out _ HB1.out) ?_); rintro e w2 ⟨rfl, hb2⟩; have HB2 := Lib.hid (HB1.out.trans (hb2.mono HB1.out.size)); have HX2 := Lib.hid ((hb2.block _ (lt_of_block HX1.out)).trans HX1.out); clear hb2; (try clear k0 k1 k2); obtain ⟨k0, k1, k2⟩ := box3 HX2.out)
        | (go_at_call 13; refine (Calls.mono (CS.out _ HB2.out) ?_); rintro e w3 ⟨rfl, hb3⟩; have HB3 := Lib.hid (HB2.out.trans (hb3.mono HB2.out.size)); have HX3 := Lib.hid ((hb3.block _ (lt_of_block HX2.out)).trans HX2.out); clear hb3; (try clear k0 k1 k2); obtain ⟨k0, k1, k2⟩ := box3 HX3.out))
    go_ret
    exact ⟨rfl, HB3.out⟩
  | true =>
  obtain ⟨start, rfl, S⟩ := HZ.out rfl rfl
  obtain ⟨⟨RS, C⟩, hch⟩ := S.chTot L.length L.length start (S.circ start S.lt) (Nat.le_refl _) (Nat.le_refl _) S.lt
  have CP : Hid (∀ W, Below w.heap.size w W → Calls Tryd.prog 14 #[.agg #[.slice A L.length cap, .int .i64 start, .int .i64 ncap]] W fun e w' => ∃ t : ByteArray, e = .returned (.tuple #[.string t, .bool C, .bool true]) ∧ t.data.toList = encL RS ∧ Below W.heap.size W w') :=
    Lib.hid fun W hb => syPrefix_c L A cap start ncap W (Kd.C_below hK hb) hcap S L.length RS C hch (by have := S.way.len; omega)
  have CE : Hid (∀ i, i ≤ s.size → ∃ OUT : List Nat, OUT.length ≤ 1000000 ∧ (∀ e ∈ OUT, EndOk s i RS C e) ∧ ∀ W, Below w.heap.size w W → Calls Tryd.prog 15 #[.agg #[.slice A L.length cap, .int .i64 start, .int .i64 ncap], .string s, .int .i64 i] W fun e w' => ∃ v, e = .returned v ∧ IR w' W.heap.size v OUT ∧ Below W.heap.size W w') :=
    Lib.hid fun i hi => by
      obtain ⟨OUT, ho⟩ := S.ends_tot s (s.size - i + 2) [start] (lastF s i) i [] hi (Nat.le_refl _) (by simpa using S.lt)
      exact ⟨OUT, by have := S.ends_len s _ [start] _ i [] OUT ho (by simpa using S.lt); simp at this; omega, S.ends_ok s i RS C hi hch ho, fun W hb => ends_c L A cap start ncap s W (Kd.C_below hK hb) hcap S.way S.lt (hF.below hb hB0) (Nat.le_trans hB0 hb.size) (Utf8Tabs_below hU hb) hs3 i hi (s.size - i + 2) (by omega) OUT ho⟩
  have CAB := Lib.hid (fun W : World => lab_at W)
  clear hF hU hK HZ S hch hs
  go_enter Tryd.func4, Tryd.ntmps4
  go_upto_region 6 with (first
    | (go_at_call 12; refine (Calls.mono (CZ.out _ HB1.out) ?_); rintro e w2 ⟨rfl, hb2⟩; have HB2 := Lib.hid (HB1.out.trans (hb2.mono HB1.out.size)); have HX2 := Lib.hid ((hb2.block _ (lt_of_block HX1.out)).trans HX1.out); clear hb2; (try clear k0 k1 k2); obtain ⟨k0, k1, k2⟩ := box3 HX2.out)
    | (go_at_call 13; refine (Calls.mono (CS.out _ HB2.out) ?_); rintro e w3 ⟨rfl, hb3⟩; have HB3 := Lib.hid (HB2.out.trans (hb3.mono HB2.out.size)); have HX3 := Lib.hid ((hb3.block _ (lt_of_block HX2.out)).trans HX2.out); clear hb3; (try clear k0 k1 k2); obtain ⟨k0, k1, k2⟩ := box3 HX3.out)
    | (go_at_call 14; refine (Calls.mono (CP.out _ HB3.out) ?_); rintro e w4 ⟨t, rfl, ht, hb4⟩; have HT := Lib.hid ht; have HB4 := Lib.hid (HB3.out.trans (hb4.mono HB3.out.size)); have HX4 := Lib.hid ((hb4.block _ (lt_of_block HX3.out)).trans HX3.out); clear ht hb4 k0 k1 k2))
  have HA : Hid (∀ o1 o2 o3, Below w.heap.size w (((w4.alloc o1).alloc o2).alloc o3)) := Lib.hid fun o1 o2 o3 => ((HB4.out.alloc HB4.out.size o1).alloc (HB4.out.alloc HB4.out.size o1).size o2).alloc ((HB4.out.alloc HB4.out.size o1).alloc (HB4.out.alloc HB4.out.size o1).size o2).size o3
  have HXA : Hid (∀ o1 o2 o3, (((w4.alloc o1).alloc o2).alloc o3).heap[w.heap.size]? = some (.cells #[.slice A L.length cap, .int .i64 start, .int .i64 ncap] 36 (0, 0))) := Lib.hid fun o1 o2 o3 => Mem.blk_old (Mem.blk_old (Mem.blk_old HX4.out o1) o2) o3
  go_wp2_with (go_at_call 14; refine (Calls.mono (CAB.out w4) ?_); rintro e w5 ⟨rfl, hb5⟩; have HB5 := Lib.hid ((HA.out _ _ _).trans (hb5.mono (HA.out _ _ _).size)); have HX5 := Lib.hid ((hb5.block _ (lt_of_block (HXA.out _ _ _))).trans (HXA.out _ _ _)); clear hb5)
  clear CP CAB CZ CS HA HXA HX4 HB4 HX3 HB3 HX2 HB2 HX1 HB1
  go_loopg [11] (s.size + 2) (fun gg s11 wx => ∃ i : Nat, s11 = .int .i64 i ∧ i ≤ s.size + 1 ∧ s.size + 1 - i < gg ∧ Hid (wx.heap[w.heap.size]? = some (.cells #[.slice A L.length cap, .int .i64 start, .int .i64 ncap] 36 (0, 0))) ∧ Hid (Below w.heap.size w wx))
  case atStart => exact ⟨0, rfl, by omega, by omega, HX5, HB5⟩
  case round =>
    obtain ⟨i, rfl, hi, hg, HX, HB⟩ := hrel
    obtain ⟨g', rfl⟩ : ∃ g', gk = g' + 1 := ⟨gk - 1, by omega⟩
    by_cases hle : i ≤ s.size
    rotate_left
    · have b1 : decide ((i : Int) ≤ (s.size : Int)) = false := decide_eq_false (by omega)
      have b1' : decide (i ≤ s.size) = false := decide_eq_false (by omega)
      clear CE hle
      go_wp2_with fail
      go_ret
      exact ⟨rfl, HB.out⟩
    · have b1 : decide ((i : Int) ≤ (s.size : Int)) = true := decide_eq_true (by omega)
      have b1' : decide (i ≤ s.size) = true := decide_eq_true (by omega)
      obtain ⟨OUT, hol, hall, hce⟩ := CE.out i hle
      have HAL := Lib.hid hall
      have CI := Lib.hid hce
      obtain ⟨k0, k1, k2⟩ := box3 HX.out
      clear hall hce
      go_upto_region 13 with (go_at_call 15; refine (Calls.mono (CI.out _ HB.out) ?_); rintro e w6 ⟨v, rfl, hir, hb6⟩; have HIR := Lib.hid hir; have HB6 := Lib.hid (HB.out.trans (hb6.mono HB.out.size)); have HX6 := Lib.hid ((hb6.block _ (lt_of_block HX.out)).trans HX.out); clear hir hb6)
      obtain ⟨Ae, ce, hv⟩ := HIR.out.slice
      subst hv
      by_cases hnil : OUT.length = 0
      · have b2 : decide ((0 : Int) < (OUT.length : Int)) = false := decide_eq_false (by omega)
        have b2' : decide (0 < OUT.length) = false := decide_eq_false (by omega)
        go_wp2_with fail
        obtain ⟨BQ, HIQ⟩ : ∃ BQ, Hid (IR w6 BQ (.slice Ae OUT.length ce) OUT) := ⟨_, HIR⟩
        clear HIR k0 k1 k2
        go_loopg [95] (OUT.length + 1) (fun gg s95 wx => ∃ j : Nat, s95 = .int .i64 j ∧ j ≤ OUT.length ∧ OUT.length - j < gg ∧ Hid (IR wx BQ (.slice Ae OUT.length ce) OUT) ∧ Hid (wx.heap[w.heap.size]? = some (.cells #[.slice A L.length cap, .int .i64 start, .int .i64 ncap] 36 (0, 0))) ∧ Hid (Below w.heap.size w wx))
        case atStart => exact ⟨0, rfl, by omega, by omega, HIQ, HX6, HB6⟩
        case round =>
          obtain ⟨j, rfl, hj, hg2, HI, HXr, HBr⟩ := hrel
          obtain ⟨g'', rfl⟩ : ∃ g'', gk = g'' + 1 := ⟨gk - 1, by omega⟩
          by_cases hlt : j < OUT.length
          · exact absurd hlt (by omega)
          · have c1 : decide ((j : Int) < (OUT.length : Int)) = false := decide_eq_false (by omega)
            have c1' : decide (j < OUT.length) = false := decide_eq_false (by omega)
            go_wp2_with fail
            go_roundg g'
            case rel => exact ⟨i + 1, by go_num, by omega, by omega, HXr, HBr⟩
            case measure => omega
      · have b2 : decide ((0 : Int) < (OUT.length : Int)) = true := decide_eq_true (by omega)
        have b2' : decide (0 < OUT.length) = true := decide_eq_true (by omega)
        have hE := end_size (HAL.out (OUT.getD 0 0) (by rw [List.getD_eq_getElem?_getD, List.getElem?_eq_getElem (by omega)]; exact List.getElem_mem _)) hle HT.out
        obtain ⟨hE1, hE2, _⟩ := hE
        have hsl : ∀ W, Sem.run Tryd.prog (Instr.slice 9 (.string s) (some (.int .i64 (i : Int))) (some (.int .i64 ((i : Int) + (t.size : Int)))) none) W = .ok (.string t) W := fun W => by
          exact slice_lh W i (i + t.size) s t hE2 (by omega) hE1
        clear hE2
        have b3 : decide ((s.size : Int) - (i : Int) < (t.size : Int)) = false := decide_eq_false (by omega)
        go_wp2_with fail
        obtain ⟨BQ, HIQ⟩ : ∃ BQ, Hid (IR w6 BQ (.slice Ae OUT.length ce) OUT) := ⟨_, HIR⟩
        clear HIR k0 k1 k2
        go_loopg [95] (OUT.length + 1) (fun gg s95 wx => ∃ j : Nat, s95 = .int .i64 j ∧ j ≤ OUT.length ∧ OUT.length - j < gg ∧ Hid (IR wx BQ (.slice Ae OUT.length ce) OUT) ∧ Hid (wx.heap[w.heap.size]? = some (.cells #[.slice A L.length cap, .int .i64 start, .int .i64 ncap] 36 (0, 0))) ∧ Hid (Below w.heap.size w wx))
        case atStart => exact ⟨0, rfl, by omega, by omega, HIQ, HX6, HB6⟩
        case round =>
          obtain ⟨j, rfl, hj, hg2, HI, HXr, HBr⟩ := hrel
          obtain ⟨g'', rfl⟩ : ∃ g'', gk = g'' + 1 := ⟨gk - 1, by omega⟩
          by_cases hlt : j < OUT.length
          · have c1 : decide ((j : Int) < (OUT.length : Int)) = true := decide_eq_true (by omega)
            have c1' : decide (j < OUT.length) = true := decide_eq_true (by omega)
            obtain ⟨ge, ce', hve, hc0⟩ := HI.out.at hlt
            have hAe : Ae = some ⟨ge, 0, none⟩ := by injection hve
            subst hAe
            have hE := end_size (HAL.out (OUT.getD j 0) (by rw [List.getD_eq_getElem?_getD, List.getElem?_eq_getElem hlt]; exact List.getElem_mem _)) hle HT.out
            generalize OUT.getD j 0 = e at *
            obtain ⟨hE1, _, hE3⟩ := hE
            cases C with
            | false =>
              clear hE3 hve
              go_wp2_with fail
              go_roundg g''
              case rel => exact ⟨j + 1, by go_num, by omega, by omega, HI, HXr, HBr⟩
              case measure => omega
            | true =>
              obtain rfl := hE3 rfl
              have c2 : (((i + t.size : Nat) : Int) != (i : Int) + (t.size : Int)) = false := by simp
              clear hE3 hve
              go_wp2_with fail
              go_roundg g''
              case rel => exact ⟨j + 1, by go_num, by omega, by omega, HI, HXr, HBr⟩
              case measure => omega
          · have c1 : decide ((j : Int) < (OUT.length : Int)) = false := decide_eq_false (by omega)
            have c1' : decide (j < OUT.length) = false := decide_eq_false (by omega)
            go_wp2_with fail
            go_roundg g'
            case rel => exact ⟨i + 1, by go_num, by omega, by omega, HXr, HBr⟩
            case measure => omega
end
end Go.Proofs.YtmgdlodnhmpbiaaDoor.Ps
namespace Go.Proofs.YtmgdlodnhmpbiaaDoor.Ps
open Go.RowKit Go.ChangeShapes Go.WideShapes Go.Proofs.YtmgdlodnhmpbiaaDoor.PFnSyPrefix Go.Proofs.YtmgdlodnhmpbiaaDoorW.PrintWords Go.Proofs.YtmgdlodnhmpbiaaDoorW.PrintLast Go.Proofs.YtmgdlodnhmpbiaaDoorW.PrintMore
set_option linter.unusedVariables false
section
variable {H : Type} {enc : TypeId × Value → H} {w : World} {base : Nat} {held : Bool}
theorem ints_kd3 {t e : TypeId} {k : IntKind} {v : Value} {fuel : Nat} {x : DataW H × List MemPlace} (ht : Tryd.prog.underlying t = some (.slice e)) (he : Tryd.prog.underlying e = some (.int k)) (hc : Tryd.prog.cellsOf e = 1)
    (h : DataW.trod enc Tryd.prog w base (fun _ => true) held fuel t [v] = some x) : ∃ A c, ∃ zs : List Int, v = .slice A zs.length c ∧ zs.length ≤ c ∧ (Kd.int k).C w A zs.length zs := by
  rcases open_ints ht he hc h with ⟨hcs, _⟩ | ⟨a, l, c', zs, hcs, _, hl, hm, hz, hx, hcell, hwz⟩
  · simp at hcs
    exact ⟨none, 0, [], hcs, Nat.le_refl _, ⟨rfl, by simp, fun h => absurd h (by simp)⟩⟩
  · simp at hcs
    subst hcs
    simp only [if_true] at hz
    have hlen : (zs.take l).length = l := by simp; omega
    refine ⟨some a, c', zs.take l, by rw [hlen], by omega, ⟨rfl, by rw [hlen]; unfold maxLen at hm; omega, fun _ => ⟨a, rfl, fun j p hj => ⟨[.int k p], rfl, rfl, fun i u hu => ?_⟩⟩⟩⟩
    have hi : i = 0 := by
      cases i with
      | zero => rfl
      | succ i => simp at hu
    subst hi
    simp at hu
    subst hu
    have hjl : j < l := by
      rcases Nat.lt_or_ge j l with h | h
      · exact h
      · rw [List.getElem?_eq_none (by omega)] at hj; cases hj
    have hsz : (Kd.int k).sz = 1 := rfl
    rw [hsz, Nat.mul_one, Nat.add_zero, hcell j (by omega)]
    rw [List.getElem?_take, if_pos hjl] at hj
    rw [List.getD_eq_getElem?_getD, hj]
    rfl
theorem list_of2 {α : Type} {P : Nat → α → Prop} : ∀ n : Nat, (∀ i, i < n → ∃ t, P i t) → ∃ ts : List α, ts.length = n ∧ ∀ (j : Nat) (p : α), ts[j]? = some p → P j p
  | 0, _ => ⟨[], rfl, fun j p hj => by simp at hj⟩
  | n + 1, h => by
    obtain ⟨ts, hl, ht⟩ := list_of2 n fun i hi => h i (by omega)
    obtain ⟨t, hp⟩ := h n (by omega)
    refine ⟨ts ++ [t], by simp [hl], fun j p hj => ?_⟩
    rcases Nat.lt_or_ge j n with hlt | hge
    · rw [List.getElem?_append_left (by omega)] at hj
      exact ht j p hj
    · rw [List.getElem?_append_right (by omega)] at hj
      have : j = n := by
        rcases Nat.lt_or_ge (j - ts.length) 1 with h | h
        · omega
        · rw [List.getElem?_eq_none (by simpa using h)] at hj; cases hj
      subst this
      rw [hl, Nat.sub_self] at hj
      simp at hj
      subst hj
      exact hp
set_option maxRecDepth 100000 in
theorem inst_open {fuel : Nat} {cs : List Value} {x : DataW H × List MemPlace} (h : DataW.trod enc Tryd.prog w base (fun _ => true) held fuel 43 cs = some x) : ∃ t : In, k43.K w t cs := by
  obtain ⟨xs, n, hn, hxx, hl, hxl, hf⟩ := DataW.trod_struct Tryd.underlying43 h
  have hl4 : cs.length = 4 := hl.trans (by kernel_rfl)
  match cs, hl4 with
  | [v0, v1, v2, v3], _ =>
    have c1 : Tryd.prog.cellsOf 3 = 1 := by kernel_rfl
    have c2 : Tryd.prog.cellsOf 41 = 1 := by kernel_rfl
    have f0 := hf 0 _ rfl
    have f1 := hf 1 _ rfl
    have f2 := hf 2 _ rfl
    have f3 := hf 3 _ rfl
    have hx : ∀ i, i < 4 → ∃ y, xs[i]? = some y := fun i hi => ⟨_, List.getElem?_eq_getElem (by rw [hxl]; exact hi)⟩
    obtain ⟨y0, e0⟩ := hx 0 (by omega)
    obtain ⟨y1, e1⟩ := hx 1 (by omega)
    obtain ⟨y2, e2⟩ := hx 2 (by omega)
    obtain ⟨y3, e3⟩ := hx 3 (by omega)
    rw [e0] at f0; rw [e1] at f1; rw [e2] at f2; rw [e3] at f3
    simp [c1] at f0 f1 f2
    simp [c2] at f3
    obtain ⟨op, h0, _, _⟩ := DataW.trod_int Tryd.underlying3 f0
    obtain ⟨f1', h1, _, _⟩ := DataW.trod_int Tryd.underlying3 f1
    obtain ⟨f2', h2, _, _⟩ := DataW.trod_int Tryd.underlying3 f2
    simp at h0 h1 h2
    subst h0 h1 h2
    obtain ⟨A, c, rs, rfl, hrc, hr⟩ := ints_kd3 Tryd.underlying41 Tryd.underlying21 (by kernel_rfl) f3
    exact ⟨⟨op, f1', f2', rs⟩, k43_mk w ⟨op, f1', f2', rs⟩ hrc hr⟩
set_option maxRecDepth 100000 in
theorem insts_open {fuel : Nat} {v : Value} {x : DataW H × List MemPlace} (h : DataW.trod enc Tryd.prog w base (fun _ => true) held fuel 34 [v] = some x) : ∃ A c, ∃ L : List In, v = .slice A L.length c ∧ L.length ≤ c ∧ k43.C w A L.length L := by
  rcases DataW.trod_slice Tryd.underlying34 h with ⟨hcs, _⟩ | ⟨a, len, cap, el, rest, m, hfu, hcs, hx7, _, hlc, hcm, hel, helem, _, _⟩
  · simp at hcs
    exact ⟨none, 0, [], hcs, Nat.le_refl _, ⟨rfl, by simp, fun h => absurd h (by simp)⟩⟩
  · simp at hcs
    subst hcs
    have c4 : Tryd.prog.cellsOf 43 = 4 := by kernel_rfl
    have hall : ∀ i, i < len → ∃ (t : In), ∃ (ce : List Value), ce.length = 4 ∧ k43.K w t ce ∧ ∀ j u, ce[j]? = some u → w.cell? (a.add (i * 4 + j)) = some u := by
      intro i hi
      have h1 := helem i hi
      rw [c4] at h1
      obtain ⟨b, hb⟩ : ∃ b, el[i]? = some b := ⟨_, List.getElem?_eq_getElem (by omega)⟩
      rw [hb] at h1
      obtain ⟨ce, hce, hte⟩ := Option.bind_eq_some_iff.1 h1
      obtain ⟨_, hcl, hcc⟩ := World.cells?_some hce
      obtain ⟨t, ht⟩ := inst_open hte
      refine ⟨t, ce, hcl, ht, fun j u hj => ?_⟩
      have hj4 : j < 4 := by
        rcases Nat.lt_or_ge j 4 with h | h
        · exact h
        · rw [List.getElem?_eq_none (by omega)] at hj; cases hj
      rw [← hj, ← hcc j hj4, Go.Deep.add_add]
    obtain ⟨ts, hl, hts⟩ := list_of2 len hall
    exact ⟨some a, cap, ts, by rw [hl], by omega, ⟨rfl, by rw [hl]; unfold maxLen at hcm; omega, fun _ => ⟨a, rfl, fun j p hj => hts j p hj⟩⟩⟩
set_option maxRecDepth 100000 in
theorem prog_open {fuel : Nat} {cs : List Value} {x : DataW H × List MemPlace} (h : DataW.trod enc Tryd.prog w base (fun _ => true) held fuel 36 cs = some x) : ∃ A c, ∃ (L : List In) (st ncap : Int), cs = [.slice A L.length c, .int .i64 st, .int .i64 ncap] ∧ L.length ≤ c ∧ k43.C w A L.length L := by
  obtain ⟨xs, n, hn, hxx, hl, hxl, hf⟩ := DataW.trod_struct Tryd.underlying36 h
  have hl3 : cs.length = 3 := hl.trans (by kernel_rfl)
  match cs, hl3 with
  | [v0, v1, v2], _ =>
    have c1 : Tryd.prog.cellsOf 3 = 1 := by kernel_rfl
    have c2 : Tryd.prog.cellsOf 34 = 1 := by kernel_rfl
    have f0 := hf 0 _ rfl
    have f1 := hf 1 _ rfl
    have f2 := hf 2 _ rfl
    have hx : ∀ i, i < 3 → ∃ y, xs[i]? = some y := fun i hi => ⟨_, List.getElem?_eq_getElem (by rw [hxl]; exact hi)⟩
    obtain ⟨y0, e0⟩ := hx 0 (by omega)
    obtain ⟨y1, e1⟩ := hx 1 (by omega)
    obtain ⟨y2, e2⟩ := hx 2 (by omega)
    rw [e0] at f0; rw [e1] at f1; rw [e2] at f2
    simp [c1] at f1 f2
    simp [c2] at f0
    obtain ⟨st, h1, _, _⟩ := DataW.trod_int Tryd.underlying3 f1
    obtain ⟨nc, h2, _, _⟩ := DataW.trod_int Tryd.underlying3 f2
    simp at h1 h2
    subst h1 h2
    obtain ⟨A, c, L, rfl, hc, hr⟩ := insts_open f0
    exact ⟨A, c, L, st, nc, rfl, hc, hr⟩
end
end Go.Proofs.YtmgdlodnhmpbiaaDoor.Ps
namespace Go.Proofs.YtmgdlodnhmpbiaaDoor.Ps
open Go.RowKit Go.Lib Go.ChangeShapes Go.WideShapes
set_option linter.unusedVariables false
theorem u8X : U8Extra Tryd.prog Tryd.lays197_ren := ⟨by kernel_rfl, by kernel_rfl, by kernel_rfl, by kernel_rfl, by kernel_rfl, by kernel_rfl, by kernel_rfl⟩
theorem accept_eq : (Rows.laid_unicode_utf8_acceptRanges : DataW Unit) = acceptData := by kernel_rfl
theorem utf_of_reads {w : World} (h1 : VarReads Tryd.prog w "unicode/utf8.first" Rows.laid_unicode_utf8_first) (h2 : VarReads Tryd.prog w "unicode/utf8.acceptRanges" Rows.laid_unicode_utf8_acceptRanges) : Lib.Utf8Tabs 0 1 w := by
  rw [show Rows.laid_unicode_utf8_first = firstData from Pinned.utf8First_eq] at h1
  rw [accept_eq] at h2
  exact utf8Tabs_of_reads { Tryd.lays197 with } u8X h1 h2
end Go.Proofs.YtmgdlodnhmpbiaaDoor.Ps
