/- Characters of a text, and whether an instruction takes one: the reference's functions. The places at which ways end: rows of places of the call's own; what 'ProgEnds' computes. The walk of 'ProgEnds'. -/
import Derived.Test.YtmgdlodnhmpbiaaDoorPsA1FnSyPrefix
import Derived.Test.YtmgdlodnhmpbiaaDoorOrbit
import Derived.Test.YtmgdlodnhmpbiaaDoorShelfP
import Derived.Lib.RuneCount
import Derived.Lib.RuneCountTail
import Derived.Deep.RegionHeld3
import Derived.StillTail
import Derived.OrdersHeld
namespace Go.Proofs.YtmgdlodnhmpbiaaDoor.Ps
open Go.RowKit Go.Lib Mem Fold Go.Proofs.YtmgdlodnhmpbiaaDoor.PFnSyPrefix Go.Proofs.YtmgdlodnhmpbiaaDoorW.PrintWords Go.Proofs.YtmgdlodnhmpbiaaDoorW.PrintLast Go.Proofs.YtmgdlodnhmpbiaaDoorW.PrintMore
set_option linter.unusedVariables false
theorem spot_of {w : World} {a : Addr} {v : Value} (h : w.cell? (a.add 0) = some v) : ∃ b o, a = ⟨b, o, none⟩ ∧ b < w.heap.size := by
  have h0 : w.cell? a = some v := by simpa [Addr.add] using h
  have hs := World.cell?_spot h0
  have hb := World.block_lt_of_cell? w _ h0
  obtain ⟨b, o, sp⟩ := a
  simp only at hs
  subst hs
  exact ⟨b, o, rfl, hb⟩
theorem ints_kd {w : World} {k : IntKind} {A : Option Addr} {zs : List Int} (h : Kd.C (Kd.int k) w A zs.length zs) : IntsAt w w.heap.size k A zs := fun hn => by
  obtain ⟨a, rfl, hc⟩ := h.2.2 hn
  have cell : ∀ j, j < zs.length → w.cell? (a.add j) = some (.int k (zs.getD j 0)) := fun j hj => by
    obtain ⟨c, hl, hk, hcell⟩ := hc j _ (List.getElem?_eq_getElem hj)
    have hk' : c = [Value.int k zs[j]] := hk
    have := hcell 0 (.int k zs[j]) (by rw [hk']; rfl)
    simpa [Kd.int, Kd.scalar, List.getD_eq_getElem?_getD, List.getElem?_eq_getElem hj] using this
  obtain ⟨b, o, rfl, hb⟩ := spot_of (cell 0 hn)
  exact ⟨b, o, rfl, hb, fun j hj => by rw [← cell j hj, Addr.add_lit]⟩
def nextF (s : ByteArray) (i : Nat) : Int × Nat := if s.size ≤ i then (-1, 0) else (((Utf8.decode s i).1 : Int), (Utf8.decode s i).2)
def lastF (s : ByteArray) (i : Nat) : Int := if i = 0 then -1 else ((decodeLastL (s.extract 0 i).data.toList).1 : Int)
section
variable (s : ByteArray) (i : Nat) (w : World)
set_option maxRecDepth 100000 in
set_option maxHeartbeats 2000000 in
theorem next_c (hm : s.size ≤ 2147483647) (hi : i ≤ 2147483647) (hT : Lib.Utf8Tabs 0 1 w) :
    Calls Tryd.prog 34 #[.string s, .int .i64 i] w fun e w' => e = .returned (.tuple #[.int .i32 (nextF s i).1, .int .i64 ((nextF s i).2 : Nat)]) ∧ Below w.heap.size w w' := by
  by_cases h : s.size ≤ i
  · have hn : nextF s i = (-1, 0) := if_pos h
    have HN := Lib.hid hn; clear hn
    have hb : decide (s.size ≤ i) = true := decide_eq_true (by omega)
    go_enter Tryd.func34, Tryd.ntmps34
    go_wp2
    go_ret2
    rw [HN.out]
    exact ⟨rfl, Below.refl _ _⟩
  · have hn : nextF s i = (((Utf8.decode s i).1 : Int), (Utf8.decode s i).2) := if_neg h
    have HN := Lib.hid hn; clear hn
    have hb : decide (s.size ≤ i) = false := decide_eq_false (by omega)
    have hd := Tryd.utf8_DecodeRuneInString (s.extract i s.size) w hT
    have e : Lib.decodeGo (s.extract i s.size) = Utf8.decode s i := by
      unfold Lib.decodeGo
      rw [if_neg (by rw [Lib.tail_size]; omega), Lib.tail_decode, Nat.add_zero]
    rw [e] at hd
    have HD := Lib.hid hd
    have hle : (i : Int) ≤ (s.size : Int) := by omega
    clear hd e h hT
    go_enter Tryd.func34, Tryd.ntmps34
    go_wp2_with (go_at_call 62; refine (Calls.mono HD.out ?_); rintro e w1 ⟨rfl, hb1⟩; have HB := Lib.hid hb1; clear hb1)
    go_ret2
    rw [HN.out]
    exact ⟨rfl, HB.out⟩
set_option maxRecDepth 100000 in
set_option maxHeartbeats 2000000 in
theorem last_c (hm : s.size ≤ 2147483647) (hi : i ≤ s.size) (hT : Lib.Utf8Tabs 0 1 w) :
    Calls Tryd.prog 33 #[.string s, .int .i64 i] w fun e w' => e = .returned (.int .i32 (lastF s i)) ∧ Below w.heap.size w w' := by
  by_cases h : i = 0
  · have hn : lastF s i = -1 := if_pos h
    have HN := Lib.hid hn; clear hn
    have hb : decide (i = 0) = true := decide_eq_true (by omega)
    clear h
    go_enter Tryd.func33, Tryd.ntmps33
    go_wp2
    go_ret
    rw [HN.out]
    exact ⟨rfl, Below.refl _ _⟩
  · have hn : lastF s i = ((decodeLastL (s.extract 0 i).data.toList).1 : Int) := if_neg h
    have hb : decide (i = 0) = false := decide_eq_false (by omega)
    have hle : (i : Int) ≤ (s.size : Int) := by omega
    have hd := Tryd.utf8_DecodeLastRuneInString (s.extract 0 i) w (by rw [ByteArray.size_extract]; omega) hT
    generalize decodeLastL (s.extract 0 i).data.toList = dl at *
    have HN := Lib.hid hn; clear hn
    have HD := Lib.hid hd
    clear h hT hd
    go_enter Tryd.func33, Tryd.ntmps33
    go_wp2_with (go_at_call 61; refine (Calls.mono HD.out ?_); rintro e w1 ⟨rfl, hb1⟩; have HB := Lib.hid hb1; clear hb1)
    go_ret
    rw [HN.out]
    exact ⟨rfl, HB.out⟩
end
/-- c is one of the characters that differ from r in case alone, or r. -/
def inOrb (r c : Int) : Bool := (List.range 4).any fun j => itF j r == c
theorem inOrb_at {r c : Int} {p j : Nat} (hp : Per r p) (hj : j < p) (h : itF j r = c) : inOrb r c = true :=
  List.any_eq_true.2 ⟨j, List.mem_range.2 (by have := hp.le; omega), by simpa using h⟩
theorem itF_per {r : Int} {p : Nat} (hp : Per r p) : ∀ j, ∃ i, i < p ∧ itF j r = itF i r
  | 0 => ⟨0, by have := hp.pos; omega, rfl⟩
  | j + 1 => by
    obtain ⟨i, hi, e⟩ := itF_per hp j
    by_cases h : i + 1 < p
    · exact ⟨i + 1, h, by simp only [itF]; rw [e]⟩
    · have : i + 1 = p := by omega
      refine ⟨0, by have := hp.pos; omega, ?_⟩
      have hb := hp.back
      rw [← this] at hb
      simp only [itF] at hb ⊢
      rw [e, hb]
theorem inOrb_no {r c : Int} {p : Nat} (hp : Per r p) (h : ∀ j, j < p → itF j r ≠ c) : inOrb r c = false := by
  cases e : inOrb r c with
  | false => rfl
  | true =>
    obtain ⟨j, _, hj⟩ := List.any_eq_true.1 e
    obtain ⟨i, hi, he⟩ := itF_per hp j
    exact absurd (by rw [← he]; simpa using hj) (h i hi)
section
variable {B : Nat} (r c : Int) (w : World)
set_option maxRecDepth 100000 in
set_option maxHeartbeats 2000000 in
theorem folds_c (p : Nat) (hF : FoldV B w) (hp : Per r p) :
    Calls Tryd.prog 65 #[.int .i32 r, .int .i32 c] w fun e w' => e = .returned (.bool (inOrb r c)) ∧ ∃ q, w' = w.drewN q := by
  have HF := Lib.hid hF; clear hF
  have HP := Lib.hid hp; clear hp
  by_cases he : r = c
  · have hs : inOrb r c = true := inOrb_at HP.out (j := 0) (by have := HP.out.pos; omega) he
    have HS := Lib.hid hs
    have hb : (r == c) = true := by simpa using he
    clear he hs
    go_enter Tryd.func65, Tryd.ntmps65
    go_wp2
    go_ret
    rw [HS.out]
    exact ⟨rfl, 0, rfl⟩
  · have hb : (r == c) = false := by simpa using he
    have HE := Lib.hid he; clear he
    go_enter Tryd.func65, Tryd.ntmps65
    go_wp2_with (go_at_call 84; refine (sf_any _ _ HF.out).mono ?_; rintro e w1 ⟨rfl, q1, rfl⟩)
    go_loopg [5] (p + 1) (fun g s5 wx => ∃ k q : Nat, 1 ≤ k ∧ k ≤ p ∧ p - k < g ∧ s5 = .int .i32 (itF k r) ∧ wx = w.drewN q ∧ Hid (∀ j, j < k → itF j r ≠ c))
    case atStart => exact ⟨1, q1, by omega, HP.out.pos, by omega, rfl, rfl, Lib.hid fun j hj => by
      have h0 : j = 0 := by omega
      rw [h0]
      exact HE.out⟩
    case round =>
      obtain ⟨k, q, hk1, hk2, hg, rfl, rfl, HN⟩ := hrel
      obtain ⟨g', rfl⟩ : ∃ g', gk = g' + 1 := ⟨gk - 1, by omega⟩
      by_cases hlt : k < p
      · have hne : (itF k r != r) = true := by simpa using HP.out.first k hk1 hlt
        by_cases hck : itF k r = c
        · have hs : inOrb r c = true := inOrb_at HP.out hlt hck
          have HS := Lib.hid hs
          have hb2 : (itF k r == c) = true := by simpa using hck
          clear hck hs
          go_wp2
          go_ret
          rw [HS.out]
          exact ⟨rfl, q, rfl⟩
        · have hb2 : (itF k r == c) = false := by simpa using hck
          have HCK := Lib.hid hck; clear hck
          go_wp2_with (go_at_call 84; refine (sf_any _ _ (HF.out.drewN q)).mono ?_; rintro e w1 ⟨rfl, q2, rfl⟩)
          go_roundg g'
          case rel => exact ⟨k + 1, q + q2, by omega, by omega, by omega, rfl, rfl, Lib.hid fun j hj => if h : j = k then h ▸ HCK.out else HN.out j (by omega)⟩
          case measure => omega
      · obtain rfl : k = p := by omega
        have hne : (itF k r != r) = false := by simpa using HP.out.back
        have hs : inOrb r c = false := inOrb_no HP.out HN.out
        have HS := Lib.hid hs; clear hs
        go_wp2
        go_ret
        rw [HS.out]
        exact ⟨rfl, q, rfl⟩
end
theorem class_l (l : List Int) (c : Int) (hl : l.length ≤ 2147483647) : ∀ (k i : Nat), l.length + 1 < i + k → i ≤ l.length + 1 → ∃ r, spec_reInClass.l0 k l c (i : Int) = some r
  | 0, i, h, hi => by omega
  | k + 1, i, h, hi => by
    have hw1 : wrap64 ((i : Int) + 1) = ((i + 1 : Nat) : Int) := by unfold wrap64; omega
    have hw2 : wrap64 ((i : Int) + 2) = ((i + 2 : Nat) : Int) := by unfold wrap64; omega
    simp only [spec_reInClass.l0, hw1, hw2]
    by_cases h1 : i + 1 < l.length
    · have nx := class_l l c hl k (i + 2) (by omega) (by omega)
      rw [if_pos (by omega)]
      repeat' split
      all_goals first
        | exact nx
        | exact ⟨_, rfl⟩
        | omega
    · rw [if_neg (by omega)]
      exact ⟨_, rfl⟩
def classF (l : List Int) (c : Int) : Bool := (spec_reInClass.f (l.length + 2) l c).getD false
theorem class_f (l : List Int) (c : Int) (hl : l.length ≤ 2147483647) : spec_reInClass.f (l.length + 2) l c = some (classF l c) := by
  obtain ⟨r, hr⟩ := class_l l c hl (l.length + 2) 0 (by omega) (by omega)
  have : spec_reInClass.f (l.length + 2) l c = some r := hr
  unfold classF
  rw [this]; rfl
/-- Whether an instruction takes a character. -/
def takesF (I : In) (c : Int) : Bool :=
  if I.f0 = 8 then I.f3.getD 0 0 == c else if I.f0 = 9 then true else if I.f0 = 10 then c != 10
  else if I.f3.length = 1 then (c == I.f3.getD 0 0 || (I.f2 == 1 && inOrb (I.f3.getD 0 0) c)) else classF I.f3 c
section
variable {B : Nat} (I : In) (A3 : Option Addr) (c3 : Nat) (c : Int) (w : World)
set_option maxRecDepth 100000 in
set_option maxHeartbeats 4000000 in
theorem takes_c (hF : FoldV B w) (hB : B ≤ w.heap.size) (hg : Kd.C (Kd.int .i32) w A3 I.f3.length I.f3) (hl3 : I.f3.length ≤ c3) (hl : I.f3.length ≤ 2147483647)
    (h8 : I.f0 = 8 → 0 < I.f3.length) (h7 : I.f0 ≠ 8 → I.f0 ≠ 9 → I.f0 ≠ 10 → I.f3.length = 1 → ∃ p, Per (I.f3.getD 0 0) p) :
    Calls Tryd.prog 37 #[.agg #[.int .i64 I.f0, .int .i64 I.f1, .int .i64 I.f2, .slice A3 I.f3.length c3], .int .i32 c] w fun e w' => e = .returned (.bool (takesF I c)) ∧ Below w.heap.size w w' := by
  have CI : Hid (∀ W, Below w.heap.size w W → Calls Tryd.prog 66 #[.slice A3 I.f3.length c3, .int .i32 c] W fun e w' => e = .returned (.bool (classF I.f3 c)) ∧ ∃ q, w' = W.drewN q) :=
    Lib.hid fun W hW => (spec_reInClass.calls (I.f3.length + 2) A3 c3 I.f3 c _ W (Kd.C_below hg hW) hl3 (class_f I.f3 c hl)).mono fun e w' h => ⟨h.1, h.2.out⟩
  have HF := Lib.hid hF
  have HZ := Lib.hid (ints_kd hg)
  have hbB : Hid (∀ cs : Array Value, Below w.heap.size w (w.alloc (.cells cs 43))) := Lib.hid fun cs => (Below.refl _ _).alloc (Nat.le_refl _) _
  obtain ⟨op, f1, f2, rs⟩ := I
  simp only at *
  have H8 := Lib.hid h8
  have H7 := Lib.hid h7
  clear hF hg h8 h7
  by_cases o8 : op = 8
  · have hz := HZ.out (H8.out o8)
    obtain ⟨b3, p3, rfl, hb3, hc3⟩ := hz
    have hc0 := hc3 0 (H8.out o8)
    have hpos : (0 : Int) < (rs.length : Int) := by have := H8.out o8; omega
    simp only [Nat.add_zero] at hc0
    have ht : takesF ⟨op, f1, f2, rs⟩ c = (rs.getD 0 0 == c) := if_pos o8
    generalize rs.getD 0 0 = r0 at *
    have b8 : (op == 8) = true := by simp [o8]
    have HT := Lib.hid ht
    have c0 : (w.alloc (.cells #[.int .i64 op, .int .i64 f1, .int .i64 f2, .slice (some ⟨b3, p3, none⟩) rs.length c3] 43)).cell? ⟨b3, p3, none⟩ = some (.int .i32 r0) := low (hbB.out _) hc0
    clear o8 ht hc3 hc0
    go_enter Tryd.func37, Tryd.ntmps37
    go_wp2
    go_ret
    rw [HT.out]
    exact ⟨rfl, hbB.out _⟩
  · have b8 : (op == 8) = false := by simpa using o8
    by_cases o9 : op = 9
    · have ht : takesF ⟨op, f1, f2, rs⟩ c = true := by simp [takesF, o9]
      have b9 : (op == 9) = true := by simp [o9]
      have HT := Lib.hid ht
      clear o8 o9 ht
      go_enter Tryd.func37, Tryd.ntmps37
      go_wp2
      go_ret
      rw [HT.out]
      exact ⟨rfl, hbB.out _⟩
    · have b9 : (op == 9) = false := by simpa using o9
      by_cases o10 : op = 10
      · have ht : takesF ⟨op, f1, f2, rs⟩ c = (c != 10) := by simp [takesF, o10]
        have b10 : (op == 10) = true := by simp [o10]
        have HT := Lib.hid ht
        clear o8 o9 o10 ht
        go_enter Tryd.func37, Tryd.ntmps37
        go_wp2
        go_ret
        rw [HT.out]
        exact ⟨rfl, hbB.out _⟩
      · have b10 : (op == 10) = false := by simpa using o10
        have ht : takesF ⟨op, f1, f2, rs⟩ c = if rs.length = 1 then (c == rs.getD 0 0 || (f2 == 1 && inOrb (rs.getD 0 0) c)) else classF rs c := by simp [takesF, o8, o9, o10]
        by_cases h1 : rs.length = 1
        · have hz := HZ.out (by omega)
          obtain ⟨b3, p3, rfl, hb3, hc3⟩ := hz
          have hc0 := hc3 0 (by omega)
          simp only [Nat.add_zero] at hc0
          rw [if_pos h1] at ht
          obtain ⟨p, hp⟩ := H7.out o8 o9 o10 h1
          have CFo : Hid (∀ W, Below w.heap.size w W → Calls Tryd.prog 65 #[.int .i32 (rs.getD 0 0), .int .i32 c] W fun e w' => e = .returned (.bool (inOrb (rs.getD 0 0) c)) ∧ ∃ q, w' = W.drewN q) :=
            Lib.hid fun W hW => folds_c (rs.getD 0 0) c W p (HF.out.below hW hB) hp
          have c0 : (w.alloc (.cells #[.int .i64 op, .int .i64 f1, .int .i64 f2, .slice (some ⟨b3, p3, none⟩) rs.length c3] 43)).cell? ⟨b3, p3, none⟩ = some (.int .i32 (rs.getD 0 0)) := low (hbB.out _) hc0
          generalize rs.getD 0 0 = r0 at *
          rw [h1] at c0 ⊢
          have HBb := hbB.out #[.int .i64 op, .int .i64 f1, .int .i64 f2, .slice (some ⟨b3, p3, none⟩) 1 c3]
          have HB2 := Lib.hid HBb
          have HT := Lib.hid ht
          clear o8 o9 o10 ht hc3 hc0 HBb hp h1
          by_cases e1 : c = r0
          · have be : (c == r0) = true := by simp [e1]
            clear e1
            go_enter Tryd.func37, Tryd.ntmps37
            go_wp2
            go_ret
            rw [HT.out, be]
            exact ⟨rfl, HB2.out⟩
          · have be : (c == r0) = false := by simp [e1]
            clear e1
            by_cases e2 : f2 = 1
            · have bf : (f2 == 1) = true := by simp [e2]
              clear e2
              go_enter Tryd.func37, Tryd.ntmps37
              go_wp2_with (go_at_call 65; refine (Calls.mono (CFo.out _ HB2.out) ?_); rintro e w1 ⟨rfl, q1, rfl⟩)
              go_ret
              rw [HT.out, be, bf]
              exact ⟨by simp, Mem.below_drewN HB2.out q1⟩
            · have bf : (f2 == 1) = false := by simp [e2]
              clear e2
              go_enter Tryd.func37, Tryd.ntmps37
              go_wp2
              go_ret
              rw [HT.out, be, bf]
              exact ⟨by simp, HB2.out⟩
        · have bl : ((rs.length : Int) == 1) = false := by simp; omega
          rw [if_neg h1] at ht
          have HT := Lib.hid ht
          have HB2 := Lib.hid (hbB.out #[.int .i64 op, .int .i64 f1, .int .i64 f2, .slice A3 rs.length c3])
          clear o8 o9 o10 ht h1
          go_enter Tryd.func37, Tryd.ntmps37
          go_wp2_with (go_at_call 66; refine (Calls.mono (CI.out _ HB2.out) ?_); rintro e w1 ⟨rfl, q1, rfl⟩)
          go_ret
          rw [HT.out]
          exact ⟨rfl, Mem.below_drewN HB2.out q1⟩
end
end Go.Proofs.YtmgdlodnhmpbiaaDoor.Ps
namespace Go.Proofs.YtmgdlodnhmpbiaaDoor.Ps
open Go.RowKit Go.Lib Mem Fold Go.Proofs.YtmgdlodnhmpbiaaDoor.PFnSyPrefix Go.Proofs.YtmgdlodnhmpbiaaDoorW.PrintWords Go.Proofs.YtmgdlodnhmpbiaaDoorW.PrintLast Go.Proofs.YtmgdlodnhmpbiaaDoorW.PrintMore
set_option linter.unusedVariables false
/-- What the instructions listed at a place make of it: the places told, the instructions behind those that take the character. -/
def stepF (L : List In) (c : Int) (n i : Nat) : List Nat → List Nat × List Nat → List Nat × List Nat
  | [], st => st
  | pc :: l, st => stepF L c n i l
    (if (inAt L pc).f0 = 4 then (if st.1.length = 0 ∨ st.1.getD (st.1.length - 1) 0 ≠ i then (st.1 ++ [i], st.2) else st)
     else if 0 < n ∧ waitB (inAt L pc) = true ∧ takesF (inAt L pc) c = true then (st.1, st.2 ++ [(inAt L pc).f1.toNat]) else st)
def endsF (L : List In) (s : ByteArray) : Nat → List Nat → Int → Nat → List Nat → Option (List Nat)
  | 0, _, _, _, _ => none
  | f + 1, pcs, last, i, out => if pcs = [] then some out else
    (spec_CondBetween.f 10 last (nextF s i).1).bind fun cond => (reachF (L.length + 1) L cond pcs []).bind fun l =>
      endsF L s f (stepF L (nextF s i).1 (nextF s i).2 i l (out, [])).2 (nextF s i).1 (i + (nextF s i).2) (stepF L (nextF s i).1 (nextF s i).2 i l (out, [])).1
/-- Places of the call's own. -/
def IR (w : World) (B : Nat) (v : Value) (l : List Nat) : Prop := w.ownsRow B 3 1 v l.length (natC l)
/-- Two rows in blocks of their own. -/
def Ap (v v' : Value) : Prop := ∀ b, v.ownBlock = some b → v'.ownBlock ≠ some b
theorem Ap.symm {v v' : Value} (h : Ap v v') : Ap v' v := fun b hb hb' => h b hb' hb
theorem Ap.nil (v : Value) : Ap v (.slice none 0 0) := fun b _ h => by simp [Value.ownBlock] at h
section
variable {w w' : World} {B : Nat} {v : Value} {l : List Nat}
theorem IR.below (h : IR w B v l) (hb : Below w.heap.size w w') : IR w' B v l := own_move h (fun b hv => hb.block b (World.ownsRow.lt h b hv).2)
theorem IR.slice (h : IR w B v l) : ∃ A c, v = .slice A l.length c := own_slice h
theorem IR.at (h : IR w B v l) {j : Nat} (hj : j < l.length) : ∃ g c, v = .slice (some ⟨g, 0, none⟩) l.length c ∧ w.cell? ⟨g, j, none⟩ = some (.int .i64 (l.getD j 0 : Nat)) := by
  obtain ⟨g, c, hv, _, _⟩ := World.ownsRow.form h (by omega)
  subst hv
  have := World.ownsRow.cells h (g := g) rfl j _ (natC_at hj)
  rw [Addr.add_lit, Nat.zero_add] at this
  exact ⟨g, c, rfl, this⟩
/-- What an append to one row leaves. -/
structure Kp (w w' : World) (B : Nat) (v v' : Value) : Prop where
  rows : ∀ v2 l2 B2, IR w B2 v2 l2 → Ap v v2 → IR w' B2 v2 l2 ∧ Ap v' v2
  oth : ∀ (b : Nat) (cs : Array Value) (t : TypeId), w.heap[b]? = some (.cells cs t (0, 0)) → t ≠ 3 → w'.heap[b]? = some (.cells cs t (0, 0))
  bel : Below B w w'
theorem wp_appN {ops : Array Oper} {rest : List Oper} {o : Oper} {a : Act} {Q : Exit → Act → World → Prop} (hgd : o.guard = none) (sl x : Operand)
    (ho : o.op = .call { callee := .builtin .append, args := #[sl, x], argTypes := #[23, 23] })
    (hs : a.eval sl = v) (hown : IR w B v l) (n : Nat) (hx : a.eval x = .slice (some ⟨w.heap.size, 0, none⟩) 1 1)
    (hl : l.length ≤ 1000000000) (hB : B ≤ w.heap.size)
    (h : ∀ A' c' w', IR w' B (.slice A' (l.length + 1) c') (l ++ [n]) → Kp w w' B v (.slice A' (l.length + 1) c') → wpList Tryd.prog ops Q rest (a.put o.dst (.slice A' (l.length + 1) c')) w') :
    wpList Tryd.prog ops Q (o :: rest) a (w.alloc (.cells #[.int .i64 n] 3)) := by
  obtain ⟨i0, hi0, hz0, hz1, hz2⟩ := info_parts info_int
  refine wpList_plain hgd fun K hK => ?_
  obtain ⟨v', w', hr, ho', hg, _, hat⟩ := run_append_own_at (P := Tryd.prog) (w.alloc (.cells #[.int .i64 n] 3)) B 23 o.type 3 i0 (.int .i64 0) 1 8 Tryd.underlying23 hi0 hz0 hz1 hz2 rfl (by omega) v l.length (natC l) (World.ownsRow.alloc hown _) ⟨w.heap.size, 0, none⟩ 1 1 [.int .i64 n] rfl (by
    intro j u' hj
    cases j with
    | zero =>
      simp at hj
      subst hj
      have : (⟨w.heap.size, 0, none⟩ : Addr).add 0 = ⟨w.heap.size, 0, none⟩ := by simp [Addr.add]
      rw [this]
      simp
    | succ j => simp at hj) (by simp [Value.oneCell']) (by unfold maxLen; omega) (by omega) (by simp; omega)
  have hir : IR w' B v' (l ++ [n]) := by
    unfold IR
    rw [natC_app, List.length_append]
    exact ho'
  obtain ⟨A', c', hv'⟩ := IR.slice hir
  rw [List.length_append] at hv'
  subst hv'
  have hat' : (Value.slice A' (l.length + 1) c').ownBlock = v.ownBlock ∨ (Value.slice A' (l.length + 1) c').ownBlock = some (w.heap.size + 1) := by simpa using hat
  unfold Oper.wp execOp
  simp only [ho, resolve, invoke, builtin, Sem.run_bind, Sem.run_pure, Result.andThen_ok, List.map_toArray, List.map_cons, List.map_nil, hs, hx, hr]
  refine hK _ _ (h A' c' w' hir ⟨fun v2 l2 B2 h2 ha => ⟨?_, ?_⟩, fun b cs t hb ht => ?_, ?_⟩)
  · refine (World.ownsRow.alloc h2 _).kept hg ?_
    cases hv2 : v2.ownBlock with
    | none => exact Or.inl rfl
    | some b => exact Or.inr fun e => ha b e.symm hv2
  · intro b hb hb2
    rcases hat' with e | e
    · rw [e] at hb
      exact ha b hb hb2
    · rw [e] at hb
      have := (World.ownsRow.lt h2 b hb2).2
      simp at hb
      omega
  · exact Mem.blk_grown (Mem.blk_old hb (.cells #[.int .i64 n] 3)) hg (Mem.own_apart (World.ownsRow.alloc hown (.cells #[.int .i64 n] 3)) (Mem.blk_old hb (.cells #[.int .i64 n] 3)) ht)
  · exact ((Below.refl B w).alloc hB _).grown hg (by simp; omega) fun k hk => (World.ownsRow.lt hown k hk).1
end
end Go.Proofs.YtmgdlodnhmpbiaaDoor.Ps
namespace Go.Proofs.YtmgdlodnhmpbiaaDoor.Ps
open Go.RowKit Go.Lib Mem Fold Go.Proofs.YtmgdlodnhmpbiaaDoor.PFnSyPrefix Go.Proofs.YtmgdlodnhmpbiaaDoorW.PrintWords Go.Proofs.YtmgdlodnhmpbiaaDoorW.PrintLast Go.Proofs.YtmgdlodnhmpbiaaDoorW.PrintMore
set_option linter.unusedVariables false
/-- The parts of the program that the walk of a way needs. -/
structure WayOk (L : List In) : Prop where
  out : OutOk L
  len : L.length ≤ 500
  pos : 0 < L.length
  rl : ∀ pc, pc < L.length → (inAt L pc).f3.length ≤ 2147483647
  r8 : ∀ pc, pc < L.length → (inAt L pc).f0 = 8 → 0 < (inAt L pc).f3.length
  r7 : ∀ pc, pc < L.length → (inAt L pc).f0 ≠ 4 → (inAt L pc).f0 ≠ 8 → (inAt L pc).f0 ≠ 9 → (inAt L pc).f0 ≠ 10 → waitB (inAt L pc) = true → (inAt L pc).f3.length = 1 → ∃ p, Per ((inAt L pc).f3.getD 0 0) p
theorem IR.ints {w : World} {B : Nat} {A : Option Addr} {l : List Nat} {c : Nat} (h : IR w B (.slice A l.length c) l) : IntsAt w w.heap.size .i64 A (l.map fun (x : Nat) => (x : Int)) := by
  refine IntsAt.own (c := c) (base := B) (e := 3) (n := l.length) ?_
  have e : (l.map fun (x : Nat) => (x : Int)).map (Value.int .i64) = natC l := by simp [natC]
  rw [e]
  exact h
theorem wait_out {L : List In} (hO : OutOk L) {pc : Nat} (hp : pc < L.length) (h4 : (inAt L pc).f0 ≠ 4) (hw : waitB (inAt L pc) = true) : (inAt L pc).f1.toNat < L.length ∧ ((inAt L pc).f1.toNat : Int) = (inAt L pc).f1 := by
  refine out_nat hO hp ⟨h4, fun h5 => ?_⟩
  have := wait_f (inAt L pc)
  rw [hw] at this
  unfold spec_progWaits.f at this
  rw [h5] at this
  simp at this
theorem below_drewT' {W w1 : World} (h : Below W.drew.heap.size W.drew w1) : Below W.heap.size W w1 := ⟨h.os, h.tape, h.output, h.size, h.block⟩
theorem reachF_good {L : List In} {c : Int} (hO : OutOk L) (k : Nat) : ∀ (ps l l' : List Nat), reachF k L c ps l = some l' → Good L.length l → (∀ x ∈ ps, x < L.length) → Good L.length l'
  | [], l, l', h, hg, _ => by
    obtain rfl := Option.some.inj h
    exact hg
  | pc :: ps, l, l', h, hg, hp => by
    simp only [reachF] at h
    obtain ⟨l1, h1, h2⟩ := Option.bind_eq_some_iff.1 h
    exact reachF_good hO k ps l1 l' h2 (addF_good hO k l pc l1 h1 hg (hp pc (by simp))) (fun x hx => hp x (by simp [hx]))
/-- What the loop over the instructions listed at a place has. -/
structure Inn (w0 w : World) (bx : Array Value) (Bl : Nat) (vo vp vl : Value) (out pcs l : List Nat) : Prop where
  o : IR w w0.heap.size vo out
  p : IR w w0.heap.size vp pcs
  l : IR w Bl vl l
  op : Ap vo vp
  ol : Ap vo vl
  pl : Ap vp vl
  box : w.heap[w0.heap.size]? = some (.cells bx 36 (0, 0))
  bel : Below w0.heap.size w0 w
section
variable {w0 w w' : World} {bx : Array Value} {Bl : Nat} {vo vp vl v' : Value} {out pcs l : List Nat}
theorem Inn.below (h : Inn w0 w bx Bl vo vp vl out pcs l) (hb : Below w.heap.size w w') : Inn w0 w' bx Bl vo vp vl out pcs l :=
  ⟨h.o.below hb, h.p.below hb, h.l.below hb, h.op, h.ol, h.pl, (hb.block _ (lt_of_block h.box)).trans h.box, h.bel.trans (hb.mono h.bel.size)⟩
theorem Inn.appO {i : Nat} (h : Inn w0 w bx Bl vo vp vl out pcs l) (ho : IR w' w0.heap.size v' (out ++ [i])) (k : Kp w w' w0.heap.size vo v') : Inn w0 w' bx Bl v' vp vl (out ++ [i]) pcs l :=
  ⟨ho, (k.rows _ _ _ h.p h.op).1, (k.rows _ _ _ h.l h.ol).1, (k.rows _ _ _ h.p h.op).2, (k.rows _ _ _ h.l h.ol).2, h.pl, k.oth _ _ _ h.box (by decide), h.bel.trans k.bel⟩
theorem Inn.appP {i : Nat} (h : Inn w0 w bx Bl vo vp vl out pcs l) (hp : IR w' w0.heap.size v' (pcs ++ [i])) (k : Kp w w' w0.heap.size vp v') : Inn w0 w' bx Bl vo v' vl out (pcs ++ [i]) l :=
  ⟨(k.rows _ _ _ h.o h.op.symm).1, hp, (k.rows _ _ _ h.l h.pl).1, (k.rows _ _ _ h.o h.op.symm).2.symm, h.ol, (k.rows _ _ _ h.l h.pl).2, k.oth _ _ _ h.box (by decide), h.bel.trans k.bel⟩
end
theorem ir_nil (w : World) (B : Nat) : IR w B (.slice none 0 0) [] := World.ownsRow_nil _ _ _ _
theorem decodeN_le_n (n b0 b1 b2 b3 : Nat) (hn : 1 ≤ n) : (decodeN n b0 b1 b2 b3).2 ≤ n := by
  unfold decodeN
  repeat' split
  all_goals (simp only; omega)
theorem decode_fits (s : ByteArray) (k : Nat) (h : k < s.size) : 1 ≤ (Utf8.decode s k).2 ∧ k + (Utf8.decode s k).2 ≤ s.size := by
  refine ⟨Lib.decode_width_pos s k h, ?_⟩
  have := decodeN_le_n (s.size - k) (s.get! k).toNat (s.get! (k + 1)).toNat (s.get! (k + 2)).toNat (s.get! (k + 3)).toNat (by omega)
  rw [← Lib.decode_at] at this
  omega
theorem ap_new {w1 w2 : World} {B : Nat} {vo vl : Value} {out : List Nat} {n : Nat} {xs : List Value} (ho : IR w1 B vo out) (hl : w2.ownsRow w1.heap.size 3 1 vl n xs) : Ap vo vl := fun b hb hb2 => by
  have h1 := (World.ownsRow.lt ho b hb).2
  have h2 := (World.ownsRow.lt hl b hb2).1
  omega
theorem next_le {s : ByteArray} {i n : Nat} {c : Int} (hi : i ≤ s.size) (h : nextF s i = (c, n)) : i + n ≤ s.size := by
  unfold nextF at h
  split at h
  · injection h with _ h; omega
  · injection h with _ h
    have := decode_fits s i (by omega)
    omega
section
variable (L : List In) (A : Option Addr) (cap : Nat) (start : Nat) (ncap : Int) (s : ByteArray)
set_option maxRecDepth 100000 in
set_option maxHeartbeats 8000000 in
theorem ends_c (w0 : World) {B0 : Nat} (hK : k43.C w0 A L.length L) (hcap : L.length ≤ cap) (hW : WayOk L) (hst : start < L.length) (hF : FoldV B0 w0) (hB0 : B0 ≤ w0.heap.size) (hU : Lib.Utf8Tabs 0 1 w0)
    (hs : s.size ≤ 300) (i0 : Nat) (hi0 : i0 ≤ s.size) (F : Nat) (hFl : F ≤ 1000) (OUT : List Nat) (he : endsF L s F [start] (lastF s i0) i0 [] = some OUT) :
    Calls Tryd.prog 15 #[.agg #[.slice A L.length cap, .int .i64 start, .int .i64 ncap], .string s, .int .i64 i0] w0 fun e w' => ∃ v, e = .returned v ∧ IR w' w0.heap.size v OUT ∧ Below w0.heap.size w0 w' := by
  have HK := Lib.hid hK; have HW := Lib.hid hW; have HF := Lib.hid hF; have HU := Lib.hid hU; have HE := Lib.hid he
  have hLl := hW.len
  have hLp := hW.pos
  clear hK hW hF hU he
  have CLa : Hid (∀ W, Below w0.heap.size w0 W → Calls Tryd.prog 33 #[.string s, .int .i64 i0] W fun e w' => e = .returned (.int .i32 (lastF s i0)) ∧ Below W.heap.size W w') :=
    Lib.hid fun W hb => last_c s i0 W (by omega) hi0 (Utf8Tabs_below HU.out hb)
  go_enter Tryd.func15, Tryd.ntmps15
  go_upto_region 2 with fail
  have d1 : (w0.alloc (.cells #[.slice A L.length cap, .int .i64 start, .int .i64 ncap] 36)).cell? ⟨w0.heap.size, 1, none⟩ = some (.int .i64 start) := by simp
  have HB := Lib.hid ((Below.refl w0.heap.size w0).alloc (Nat.le_refl _) (.cells #[.slice A L.length cap, .int .i64 start, .int .i64 ncap] 36))
  have HNB := Lib.hid (Mem.blk_new w0 (.cells #[.slice A L.length cap, .int .i64 start, .int .i64 ncap] 36))
  generalize w0.alloc (.cells #[.slice A L.length cap, .int .i64 start, .int .i64 ncap] 36) = W at *
  go_cut [8, 9] (fun s8 s9 wx => s9 = .int .i32 (lastF s i0) ∧ Hid (IR wx w0.heap.size s8 [start]) ∧ Hid (wx.heap[w0.heap.size]? = some (.cells #[.slice A L.length cap, .int .i64 start, .int .i64 ncap] 36 (0, 0))) ∧ Hid (Below w0.heap.size w0 wx))
  case first =>
    go_region_held3 (fun w' => w'.cell? ⟨w0.heap.size, 1, none⟩ = some (.int .i64 start)) (go_keep) ((go_at_call 33; refine (Calls.mono (CLa.out _ ?_) ?_); (first | exact (HB.out.alloc HB.out.size _).drew | exact HB.out.drew | exact HB.out); rintro e w1 ⟨rfl, hb1⟩; have HBX := Lib.hid hb1; have c1 : w1.cell? ⟨w0.heap.size, 1, none⟩ = some (.int .i64 start) := (by first | exact low hb1 (low ((Below.refl _ W).alloc (Nat.le_refl _) _) d1) | exact low hb1 d1); clear hb1))
    all_goals go_wp2_with fail
    all_goals go_meet
    · have hbA : Below w0.heap.size w0 (W.alloc (.cells #[.int .i64 start] 3)).drew := (HB.out.alloc HB.out.size _).drew
      have h1 : IR (W.alloc (.cells #[.int .i64 start] 3)).drew w0.heap.size (.slice (some ⟨W.heap.size, 0, none⟩) 1 1) [start] := own_lit1 W 3 (.int .i64 start) HB.out.size
      have h2 := Mem.blk_old HNB.out (.cells #[.int .i64 start] 3)
      exact ⟨rfl, Lib.hid (h1.below HBX.out), Lib.hid ((HBX.out.block _ (lt_of_block h2)).trans h2), Lib.hid (hbA.trans (HBX.out.mono hbA.size))⟩
    · have hbA : Below w0.heap.size w0 w1 := HB.out.trans ((below_drewT' HBX.out).mono HB.out.size)
      have h2 : w1.heap[w0.heap.size]? = some (.cells #[.slice A L.length cap, .int .i64 start, .int .i64 ncap] 36 (0, 0)) := (HBX.out.block _ (lt_of_block HNB.out)).trans HNB.out
      exact ⟨rfl, Lib.hid (own_lit1 w1 3 (.int .i64 start) hbA.size), Lib.hid (Mem.blk_old h2 _), Lib.hid (hbA.alloc hbA.size _)⟩
  case rest =>
    obtain ⟨rfl, HR0, HBX0, HBW0⟩ := hcut
    clear d1 HNB HB CLa
    go_wp2_with fail
    go_loopg [2, 7, 8, 9] F (fun gg s2 s7 s8 s9 wx => ∃ (i : Nat) (out pcs : List Nat) (last : Int), s2 = .int .i64 i ∧ s9 = .int .i32 last ∧ Hid (IR wx w0.heap.size s7 out) ∧ Hid (IR wx w0.heap.size s8 pcs) ∧ Hid (Ap s7 s8) ∧ Hid (∀ x ∈ pcs, x < L.length) ∧ Hid (endsF L s gg pcs last i out = some OUT) ∧ i ≤ s.size ∧ out.length ≤ 500 * (F - gg) ∧ gg ≤ F ∧ pcs.length ≤ 500 ∧ Hid (wx.heap[w0.heap.size]? = some (.cells #[.slice A L.length cap, .int .i64 start, .int .i64 ncap] 36 (0, 0))) ∧ Hid (Below w0.heap.size w0 wx))
    case atStart => exact ⟨i0, [], [start], lastF s i0, rfl, rfl, Lib.hid (World.ownsRow_nil _ _ _ _), HR0, Lib.hid (Ap.nil _).symm, Lib.hid (by simpa using hst), HE, hi0, by simp, by omega, by simp, HBX0, HBW0⟩
    case round =>
      obtain ⟨i, out, pcs, last, rfl, rfl, HO1, HP1, HAp, HPL, HE1, hi, hol, hgF, hpl, HX1, HB1⟩ := hrel
      have hgpos : gk ≠ 0 := fun e => by have := HE1.out; rw [e] at this; simp [endsF] at this
      obtain ⟨g', rfl⟩ : ∃ g', gk = g' + 1 := ⟨gk - 1, by omega⟩
      obtain ⟨Ao, co, ho⟩ := HO1.out.slice
      subst ho
      obtain ⟨Aq, cq, hq⟩ := HP1.out.slice
      subst hq
      by_cases hnil : pcs = []
      · have h1 := HE1.out
        simp only [endsF, if_pos hnil] at h1
        obtain rfl := Option.some.inj h1
        have hl0 : pcs.length = 0 := by rw [hnil]; rfl
        have hb0 : decide (0 < pcs.length) = false := decide_eq_false (by omega)
        have hb1 : decide ((0 : Int) < (pcs.length : Int)) = false := decide_eq_false (by omega)
        clear hnil h1
        go_wp2_with fail
        go_ret
        exact ⟨_, rfl, HO1.out, HB1.out⟩
      · have h1 := HE1.out
        simp only [endsF, if_neg hnil] at h1
        have hlp : (0 : Int) < (pcs.length : Int) := by
          have : pcs.length ≠ 0 := fun e => hnil (List.eq_nil_of_length_eq_zero e)
          omega
        obtain ⟨c, n, hcn⟩ : ∃ c n, nextF s i = (c, n) := ⟨_, _, rfl⟩
        rw [hcn] at h1
        obtain ⟨cond, hc, h2⟩ := Option.bind_eq_some_iff.1 h1
        obtain ⟨l, hr, h3⟩ := Option.bind_eq_some_iff.1 h2
        have hcc : spec_CondBetween.f 10 last c = some cond := hc
        have HC := Lib.hid hcc
        have HR := Lib.hid hr
        have HGl := Lib.hid (reachF_good HW.out.out (L.length + 1) pcs [] l hr ⟨List.nodup_nil, by simp⟩ HPL.out)
        have hll : l.length ≤ L.length := HGl.out.len
        have CN : Hid (Calls Tryd.prog 34 #[.string s, .int .i64 i] wr fun e w' => e = .returned (.tuple #[.int .i32 c, .int .i64 n]) ∧ Below wr.heap.size wr w') := Lib.hid (by
          have := next_c s i wr (by omega) (by omega) (Utf8Tabs_below HU.out HB1.out)
          rw [hcn] at this
          exact this)
        have hnle : i + n ≤ s.size := next_le hi hcn
        simp only at h3
        generalize hres : stepF L c n i l (out, []) = res at *
        obtain ⟨ro, rp⟩ := res
        simp only at h3
        have HRES := Lib.hid hres
        have H3 := Lib.hid h3
        clear h1 h2 h3 hc hcc hr hcn hnil hres
        go_wp2_with (first
          | (go_at_call 34; refine (Calls.mono CN.out ?_); rintro e w1 ⟨rfl, hb1⟩; have HO2 := Lib.hid (HO1.out.below hb1); have HP2 := Lib.hid (HP1.out.below hb1); have HX2 := Lib.hid ((hb1.block _ (lt_of_block HX1.out)).trans HX1.out); have HB2 := Lib.hid (HB1.out.trans (hb1.mono HB1.out.size)); have k0 : w1.cell? ⟨w0.heap.size, 0, none⟩ = some (.slice A L.length cap) := (by rw [cell_of_row w1 _ 0 _ _ _ HX2.out]; rfl); have k1 : w1.cell? ⟨w0.heap.size, 1, none⟩ = some (.int .i64 start) := (by rw [cell_of_row w1 _ 1 _ _ _ HX2.out]; rfl); have k2 : w1.cell? ⟨w0.heap.size, 2, none⟩ = some (.int .i64 ncap) := (by rw [cell_of_row w1 _ 2 _ _ _ HX2.out]; rfl); clear hb1)
          | (go_at_call 35; have X := reach_c L A cap start ncap w1 (Kd.C_below HK.out HB2.out) hcap HW.out.out (by omega) hLp Aq cq pcs HP2.out.ints HPL.out (by omega) last c cond HC.out (L.length + 1) l HR.out; refine (Calls.mono X ?_); clear X; rintro e w2 ⟨v1, v2, rfl, hl, hw2, hb2⟩; obtain ⟨Al, cl, hv1⟩ := own_slice hl; subst hv1; have HI := Lib.hid (Inn.mk (bx := #[.slice A L.length cap, .int .i64 start, .int .i64 ncap]) (Bl := w1.heap.size) (HO2.out.below hb2) (ir_nil _ _) hl (Ap.nil _) (ap_new HO2.out hl) (Ap.nil _).symm ((hb2.block _ (lt_of_block HX2.out)).trans HX2.out) (HB2.out.trans (hb2.mono HB2.out.size))); clear hl hw2 hb2 k0 k1 k2))
        go_loopg [42, 7, 8] (l.length + 1) (fun gg s42 s7 s8 wx => ∃ (j : Nat) (out' pcs' : List Nat), s42 = .int .i64 j ∧ j ≤ l.length ∧ l.length - j < gg ∧ Hid (Inn w0 wx #[.slice A L.length cap, .int .i64 start, .int .i64 ncap] w1.heap.size s7 s8 (.slice Al l.length cl) out' pcs' l) ∧ Hid (stepF L c n i (l.drop j) (out', pcs') = (ro, rp)) ∧ out'.length ≤ out.length + j ∧ pcs'.length ≤ j ∧ Hid (∀ x ∈ pcs', x < L.length))
        case atStart => exact ⟨0, out, [], rfl, by omega, by omega, HI, HRES, by omega, by simp, Lib.hid (by simp)⟩
        case round =>
          obtain ⟨j, out', pcs', rfl, hj, hgj, HI1, HS1, hol', hpl', HPV⟩ := hrel
          obtain ⟨g'', rfl⟩ : ∃ g'', gk = g'' + 1 := ⟨gk - 1, by omega⟩
          obtain ⟨Ap1, cp1, hvp⟩ := HI1.out.p.slice
          subst hvp
          obtain ⟨Ao1, co1, hvo⟩ := HI1.out.o.slice
          subst hvo
          by_cases hlt : j < l.length
          · have hb0' : decide ((j : Int) < (l.length : Int)) = true := decide_eq_true (by omega)
            obtain ⟨gl, cl', hvl, hc0⟩ := HI1.out.l.at hlt
            have hAl : Al = some ⟨gl, 0, none⟩ := by injection hvl
            subst hAl
            have hpx := HGl.out.2 (l.getD j 0) (by rw [List.getD_eq_getElem?_getD, List.getElem?_eq_getElem hlt]; exact List.getElem_mem _)
            have hs2 := HS1.out
            rw [List.drop_eq_getElem_cons hlt] at hs2
            have hgx : l[j] = l.getD j 0 := by simp [List.getD_eq_getElem?_getD, hlt]
            rw [hgx] at hs2
            simp only [stepF] at hs2
            generalize l.getD j 0 = x at *
            have hK1 := elem4 HK.out hpx
            have hwf := wait_f (inAt L x)
            have hrl := HW.out.rl x hpx
            have hr8 := HW.out.r8 x hpx
            have hr7 := HW.out.r7 x hpx
            have hwo := wait_out HW.out.out hpx
            generalize inAt L x = I at *
            obtain ⟨bI, oI, A3, c3, rfl, e0, e1, e2, e3, l3, g3⟩ := hK1
            have CW : Hid (∀ W, Below w0.heap.size w0 W → Calls Tryd.prog 36 #[.agg #[.int .i64 I.f0, .int .i64 I.f1, .int .i64 I.f2, .slice A3 I.f3.length c3]] W fun e w' => e = .returned (.bool (waitB I)) ∧ Below W.heap.size W w') :=
              Lib.hid fun W hb => (spec_progWaits.calls I.f0 I.f1 I.f2 A3 c3 I.f3 (waitB I) W (Kd.C_below g3 hb) l3 hwf).mono fun e w' h => ⟨h.1, h.2⟩
            have CT0 : Hid (I.f0 ≠ 4 → waitB I = true → ∀ W, Below w0.heap.size w0 W → Calls Tryd.prog 37 #[.agg #[.int .i64 I.f0, .int .i64 I.f1, .int .i64 I.f2, .slice A3 I.f3.length c3], .int .i32 c] W fun e w' => e = .returned (.bool (takesF I c)) ∧ Below W.heap.size W w') :=
              Lib.hid fun h4 hw W hb => takes_c I A3 c3 c W (HF.out.below hb hB0) (Nat.le_trans hB0 hb.size) (Kd.C_below g3 hb) l3 hrl hr8 (fun a1 a2 a3 a4 => hr7 h4 a1 a2 a3 hw a4)
            obtain ⟨op, f1, f2, rs⟩ := I
            simp only at *
            have HWO := Lib.hid hwo
            have HS2 := Lib.hid hs2
            replace e0 := low HI1.out.bel e0
            replace e1 := low HI1.out.bel e1
            replace e2 := low HI1.out.bel e2
            replace e3 := low HI1.out.bel e3
            have d0 : wr.cell? ⟨w0.heap.size, 0, none⟩ = some (.slice (some ⟨bI, oI, none⟩) L.length cap) := by rw [cell_of_row wr _ 0 _ _ _ HI1.out.box]; rfl
            clear hwf hrl hr8 hr7 hwo hs2 l3 g3 hgx
            go_upto_region 11 with fail
            have HI4 := Lib.hid (HI1.out.below ((Below.refl _ wr).alloc (Nat.le_refl _) (.cells #[.int .i64 op, .int .i64 f1, .int .i64 f2, .slice A3 rs.length c3] 43)))
            have hnew := Mem.blk_new wr (.cells #[.int .i64 op, .int .i64 f1, .int .i64 f2, .slice A3 rs.length c3] 43)
            clear e0 e1 e2 e3 d0 hc0
            generalize wr.alloc (.cells #[.int .i64 op, .int .i64 f1, .int .i64 f2, .slice A3 rs.length c3] 43) = w4 at *
            generalize wr.heap.size = T at *
            have n0 : w4.cell? ⟨T, 0, none⟩ = some (.int .i64 op) := by rw [cell_of_row w4 T 0 _ _ _ hnew]; rfl
            have n1 : w4.cell? ⟨T, 1, none⟩ = some (.int .i64 f1) := by rw [cell_of_row w4 T 1 _ _ _ hnew]; rfl
            have n2 : w4.cell? ⟨T, 2, none⟩ = some (.int .i64 f2) := by rw [cell_of_row w4 T 2 _ _ _ hnew]; rfl
            have n3 : w4.cell? ⟨T, 3, none⟩ = some (.slice A3 rs.length c3) := by rw [cell_of_row w4 T 3 _ _ _ hnew]; rfl
            clear hnew
            have hs3 := HS2.out
            by_cases h4 : op = 4
            · have b4 : (op == 4) = true := by simp [h4]
              rw [if_pos h4] at hs3
              by_cases hz : out'.length = 0
              · have bz : ((out'.length : Int) == 0) = true := by simp [hz]
                rw [if_pos (Or.inl hz)] at hs3
                have HS3 := Lib.hid hs3
                clear hs3 h4
                have hz' := Lib.hid hz; clear hz
                go_wp2_with (at_builtin; refine wp_appN rfl _ _ rfl rfl HI4.out.o i rfl (by omega) HI4.out.bel.size ?_; intro A6 c6 w6 ho6 kp6; have HI6 := Lib.hid (HI4.out.appO ho6 kp6); clear ho6 kp6)
                go_roundg g''
                case rel => exact ⟨j + 1, out' ++ [i], pcs', by go_num, by omega, by omega, HI6, HS3, by first | omega | (rw [List.length_append, List.length_singleton]; omega), by first | omega | (rw [List.length_append, List.length_singleton]; omega), HPV⟩
                case measure => omega
              · have bz : ((out'.length : Int) == 0) = false := by rw [beq_eq_false_iff_ne]; omega
                obtain ⟨go, co', hvo2, hc1⟩ := HI4.out.o.at (j := out'.length - 1) (by omega)
                have hAo : Ao1 = some ⟨go, 0, none⟩ := by injection hvo2
                subst hAo
                have hpos : (1 : Int) ≤ (out'.length : Int) := by omega
                by_cases hne : out'.getD (out'.length - 1) 0 ≠ i
                · rw [if_pos (Or.inr hne)] at hs3
                  have HS3 := Lib.hid hs3
                  have bn : (((out'.getD (out'.length - 1) 0 : Nat) : Int) != (i : Int)) = true := by rw [bne_iff_ne]; omega
                  generalize out'.getD (out'.length - 1) 0 = lastv at *
                  clear hs3 h4 hz hne
                  go_wp2_with (at_builtin; refine wp_appN rfl _ _ rfl rfl HI4.out.o i rfl (by omega) HI4.out.bel.size ?_; intro A6 c6 w6 ho6 kp6; have HI6 := Lib.hid (HI4.out.appO ho6 kp6); clear ho6 kp6)
                  go_roundg g''
                  case rel => exact ⟨j + 1, out' ++ [i], pcs', by go_num, by omega, by omega, HI6, HS3, by first | omega | (rw [List.length_append, List.length_singleton]; omega), by first | omega | (rw [List.length_append, List.length_singleton]; omega), HPV⟩
                  case measure => omega
                · rw [if_neg (fun h => h.elim hz hne)] at hs3
                  have HS3 := Lib.hid hs3
                  have hne' : out'.getD (out'.length - 1) 0 = i := Decidable.not_not.1 hne
                  have bn : (((out'.getD (out'.length - 1) 0 : Nat) : Int) != (i : Int)) = false := by rw [hne']; simp
                  clear hne'
                  generalize out'.getD (out'.length - 1) 0 = lastv at *
                  clear hs3 h4 hz hne
                  go_wp2_with fail
                  go_roundg g''
                  case rel => exact ⟨j + 1, out', pcs', by go_num, by omega, by omega, HI4, HS3, by first | omega | (rw [List.length_append, List.length_singleton]; omega), by first | omega | (rw [List.length_append, List.length_singleton]; omega), HPV⟩
                  case measure => omega
            · have b4 : (op == 4) = false := by simp [h4]
              rw [if_neg h4] at hs3
              have HWO2 := Lib.hid (fun hw => HWO.out h4 hw)
              by_cases hn : 0 < n
              · have bn : decide ((0 : Int) < (n : Int)) = true := decide_eq_true (by omega)
                by_cases hw : waitB ⟨op, f1, f2, rs⟩ = true
                · have CT := Lib.hid (CT0.out h4 hw)
                  obtain ⟨o1, rfl⟩ : ∃ o1 : Nat, f1 = o1 := ⟨f1.toNat, (HWO2.out hw).2.symm⟩
                  have ho1 := (HWO2.out hw).1
                  rw [Int.toNat_natCast] at ho1
                  generalize waitB ⟨op, o1, f2, rs⟩ = wb at *
                  subst hw
                  by_cases ht : takesF ⟨op, o1, f2, rs⟩ c = true
                  · rw [if_pos ⟨hn, rfl, ht⟩, Int.toNat_natCast] at hs3
                    have HS3 := Lib.hid hs3
                    generalize takesF ⟨op, o1, f2, rs⟩ c = tb at *
                    subst ht
                    have HPV2 := Lib.hid (show ∀ y ∈ pcs' ++ [o1], y < L.length by
                      intro y hy
                      rcases List.mem_append.1 hy with hy | hy
                      · exact HPV.out y hy
                      · simp at hy; omega)
                    clear hs3 h4
                    go_wp2_with (first
                      | (go_at_call 36; refine (Calls.mono (CW.out _ HI4.out.bel) ?_); rintro e w5 ⟨rfl, hb5⟩; have HI5 := Lib.hid (HI4.out.below hb5); have m0 := low (Below.mono hb5 (Nat.le_refl _)) n0; have m1 := low (Below.mono hb5 (Nat.le_refl _)) n1; have m2 := low (Below.mono hb5 (Nat.le_refl _)) n2; have m3 := low (Below.mono hb5 (Nat.le_refl _)) n3; clear hb5)
                      | (go_at_call 37; refine (Calls.mono (CT.out _ HI5.out.bel) ?_); rintro e w6 ⟨rfl, hb6⟩; have HI6 := Lib.hid (HI5.out.below hb6); have p1 := low (Below.mono hb6 (Nat.le_refl _)) m1; clear hb6)
                      | (at_builtin; refine wp_appN rfl _ _ rfl rfl HI6.out.p o1 rfl (by omega) HI6.out.bel.size ?_; intro A7 c7 w7 ho7 kp7; have HI7 := Lib.hid (HI6.out.appP ho7 kp7); clear ho7 kp7))
                    go_roundg g''
                    case rel => exact ⟨j + 1, out', pcs' ++ [o1], by go_num, by omega, by omega, HI7, HS3, by first | omega | (rw [List.length_append, List.length_singleton]; omega), by first | omega | (rw [List.length_append, List.length_singleton]; omega), HPV2⟩
                    case measure => omega
                  · rw [if_neg (fun h => ht h.2.2)] at hs3
                    have HS3 := Lib.hid hs3
                    have htf : takesF ⟨op, o1, f2, rs⟩ c = false := by simpa using ht
                    generalize takesF ⟨op, o1, f2, rs⟩ c = tb at *
                    subst htf
                    clear hs3 h4 ht
                    go_wp2_with (first
                      | (go_at_call 36; refine (Calls.mono (CW.out _ HI4.out.bel) ?_); rintro e w5 ⟨rfl, hb5⟩; have HI5 := Lib.hid (HI4.out.below hb5); have m0 := low (Below.mono hb5 (Nat.le_refl _)) n0; have m1 := low (Below.mono hb5 (Nat.le_refl _)) n1; have m2 := low (Below.mono hb5 (Nat.le_refl _)) n2; have m3 := low (Below.mono hb5 (Nat.le_refl _)) n3; clear hb5)
                      | (go_at_call 37; refine (Calls.mono (CT.out _ HI5.out.bel) ?_); rintro e w6 ⟨rfl, hb6⟩; have HI6 := Lib.hid (HI5.out.below hb6); have p1 := low (Below.mono hb6 (Nat.le_refl _)) m1; clear hb6))
                    go_roundg g''
                    case rel => exact ⟨j + 1, out', pcs', by go_num, by omega, by omega, HI6, HS3, by first | omega | (rw [List.length_append, List.length_singleton]; omega), by first | omega | (rw [List.length_append, List.length_singleton]; omega), HPV⟩
                    case measure => omega
                · rw [if_neg (fun h => hw h.2.1)] at hs3
                  have HS3 := Lib.hid hs3
                  have hwf : waitB ⟨op, f1, f2, rs⟩ = false := by simpa using hw
                  generalize waitB ⟨op, f1, f2, rs⟩ = wb at *
                  subst hwf
                  clear hs3 h4 hw
                  go_wp2_with (go_at_call 36; refine (Calls.mono (CW.out _ HI4.out.bel) ?_); rintro e w5 ⟨rfl, hb5⟩; have HI5 := Lib.hid (HI4.out.below hb5); have m0 := low (Below.mono hb5 (Nat.le_refl _)) n0; have m1 := low (Below.mono hb5 (Nat.le_refl _)) n1; have m2 := low (Below.mono hb5 (Nat.le_refl _)) n2; have m3 := low (Below.mono hb5 (Nat.le_refl _)) n3; clear hb5)
                  go_roundg g''
                  case rel => exact ⟨j + 1, out', pcs', by go_num, by omega, by omega, HI5, HS3, by first | omega | (rw [List.length_append, List.length_singleton]; omega), by first | omega | (rw [List.length_append, List.length_singleton]; omega), HPV⟩
                  case measure => omega
              · have hn0 : n = 0 := by omega
                rw [if_neg (fun h => hn h.1)] at hs3
                have HS3 := Lib.hid hs3
                have HN0 := Lib.hid hn0
                have bn : decide ((0 : Int) < (n : Int)) = false := decide_eq_false (by omega)
                have bn2 : decide (0 < n) = false := decide_eq_false (by omega)
                clear hs3 h4 hn hn0
                go_wp2_with fail
                go_roundg g''
                case rel => exact ⟨j + 1, out', pcs', by go_num, by omega, by omega, HI4, HS3, by first | omega | (rw [List.length_append, List.length_singleton]; omega), by first | omega | (rw [List.length_append, List.length_singleton]; omega), HPV⟩
                case measure => omega
          · have hb0' : decide ((j : Int) < (l.length : Int)) = false := decide_eq_false (by omega)
            have hb1' : decide (j < l.length) = false := decide_eq_false (by omega)
            have hs2 := HS1.out
            rw [List.drop_of_length_le (by omega)] at hs2
            simp only [stepF] at hs2
            injection hs2 with hs2 hs4
            subst hs2
            subst hs4
            go_wp2_with fail
            go_roundg g'
            case rel => exact ⟨i + n, out', pcs', c, by go_num, rfl, Lib.hid HI1.out.o, Lib.hid HI1.out.p, Lib.hid HI1.out.op, HPV, H3, hnle, by omega, by omega, by omega, Lib.hid HI1.out.box, Lib.hid HI1.out.bel⟩
            case measure => omega
end
end Go.Proofs.YtmgdlodnhmpbiaaDoor.Ps
