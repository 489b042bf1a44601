/- Characters of a text, and whether an instruction takes one: the reference's functions. -/
import Derived.Test.YtcncclglmgdinaaDoorPsA1FnPgStep
import Derived.Test.YtcncclglmgdinaaDoorOrbit
import Derived.Test.YtcncclglmgdinaaDoorShelfP
import Derived.Lib.RuneCount
import Derived.Lib.RuneCountTail
import Derived.Deep.RegionHeld3
import Derived.StillTail
import Derived.OrdersHeld
namespace Go.Proofs.YtcncclglmgdinaaDoor.Ps
open Go.RowKit Go.Lib Mem Fold Go.Proofs.YtcncclglmgdinaaDoor.PFnPgStep Go.Proofs.YtcncclglmgdinaaDoorW.PrintWords Go.Proofs.YtcncclglmgdinaaDoorW.PrintLast Go.Proofs.YtcncclglmgdinaaDoorW.PrintMore
set_option linter.unusedVariables false
theorem spot_of {w : World} {a : Addr} {v : Value} (h : w.cell? (a.add 0) = some v) : ∃ b o, a = ⟨b, o, none⟩ ∧ b < w.heap.size := by
 have h0 : w.cell? a = some v := by simpa [Addr.add] using h
 have hs := World.cell?_spot h0
 have hb := World.block_lt_of_cell? w _ h0
 obtain ⟨b, o, sp⟩ := a
 simp only at hs
 subst hs
 exact ⟨b, o, rfl, hb⟩
theorem ints_kd {w : World} {k : IntKind} {A : Option Addr} {zs : List Int} (h : Kd.C (Kd.int k) w A zs.length zs) : IntsAt w w.heap.size k A zs := fun hn => by
 obtain ⟨a, rfl, hc⟩ := h.2.2 hn
 have cell : ∀ j, j < zs.length → w.cell? (a.add j) = some (.int k (zs.getD j 0)) := fun j hj => by
  obtain ⟨c, hl, hk, hcell⟩ := hc j _ (List.getElem?_eq_getElem hj)
  have hk' : c = [Value.int k zs[j]] := hk
  have := hcell 0 (.int k zs[j]) (by rw [hk']; rfl)
  simpa [Kd.int, Kd.scalar, List.getD_eq_getElem?_getD, List.getElem?_eq_getElem hj] using this
 obtain ⟨b, o, rfl, hb⟩ := spot_of (cell 0 hn)
 exact ⟨b, o, rfl, hb, fun j hj => by rw [← cell j hj, Addr.add_lit]⟩
def nextF (s : ByteArray) (i : Nat) : Int × Nat := if s.size ≤ i then (-1, 0) else (((Utf8.decode s i).1 : Int), (Utf8.decode s i).2)
def lastF (s : ByteArray) (i : Nat) : Int := if i = 0 then -1 else ((decodeLastL (s.extract 0 i).data.toList).1 : Int)
section
variable (s : ByteArray) (i : Nat) (w : World)
set_option maxRecDepth 100000 in
set_option maxHeartbeats 2000000 in
theorem next_c (hm : s.size ≤ 2147483647) (hi : i ≤ 2147483647) (hT : Lib.Utf8Tabs 4 5 w) :
  Calls Tryd.prog 33 #[.string s, .int .i64 i] w fun e w' => e = .returned (.tuple #[.int .i32 (nextF s i).1, .int .i64 ((nextF s i).2 : Nat)]) ∧ Below w.heap.size w w' := by
 by_cases h : s.size ≤ i
 ·have hn : nextF s i = (-1, 0) := if_pos h
  have HN := Lib.hid hn; clear hn
  have hb : decide (s.size ≤ i) = true := decide_eq_true (by omega)
  go_enter Tryd.func33, Tryd.ntmps33
  go_wp2
  go_ret2
  rw [HN.out]
  exact ⟨rfl, Below.refl _ _⟩
 ·have hn : nextF s i = (((Utf8.decode s i).1 : Int), (Utf8.decode s i).2) := if_neg h
  have HN := Lib.hid hn; clear hn
  have hb : decide (s.size ≤ i) = false := decide_eq_false (by omega)
  have hd := Tryd.utf8_DecodeRuneInString (s.extract i s.size) w hT
  have e : Lib.decodeGo (s.extract i s.size) = Utf8.decode s i := by
   unfold Lib.decodeGo
   rw [if_neg (by rw [Lib.tail_size]; omega), Lib.tail_decode, Nat.add_zero]
  rw [e] at hd
  have HD := Lib.hid hd
  have hle : (i : Int) ≤ (s.size : Int) := by omega
  clear hd e h hT
  go_enter Tryd.func33, Tryd.ntmps33
  go_wp2_with (go_at_call 51; refine (Calls.mono HD.out ?_); rintro e w1 ⟨rfl, hb1⟩; have HB := Lib.hid hb1; clear hb1)
  go_ret2
  rw [HN.out]
  exact ⟨rfl, HB.out⟩
set_option maxRecDepth 100000 in
set_option maxHeartbeats 2000000 in
theorem last_c (hm : s.size ≤ 2147483647) (hi : i ≤ s.size) (hT : Lib.Utf8Tabs 4 5 w) :
  Calls Tryd.prog 71 #[.string s, .int .i64 i] w fun e w' => e = .returned (.int .i32 (lastF s i)) ∧ Below w.heap.size w w' := by
 by_cases h : i = 0
 ·have hn : lastF s i = -1 := if_pos h
  have HN := Lib.hid hn; clear hn
  have hb : decide (i = 0) = true := decide_eq_true (by omega)
  clear h
  go_enter Tryd.func71, Tryd.ntmps71
  go_wp2
  go_ret
  rw [HN.out]
  exact ⟨rfl, Below.refl _ _⟩
 ·have hn : lastF s i = ((decodeLastL (s.extract 0 i).data.toList).1 : Int) := if_neg h
  have hb : decide (i = 0) = false := decide_eq_false (by omega)
  have hle : (i : Int) ≤ (s.size : Int) := by omega
  have hd := Tryd.utf8_DecodeLastRuneInString (s.extract 0 i) w (by rw [ByteArray.size_extract]; omega) hT
  generalize decodeLastL (s.extract 0 i).data.toList = dl at *
  have HN := Lib.hid hn; clear hn
  have HD := Lib.hid hd
  clear h hT hd
  go_enter Tryd.func71, Tryd.ntmps71
  go_wp2_with (go_at_call 86; refine (Calls.mono HD.out ?_); rintro e w1 ⟨rfl, hb1⟩; have HB := Lib.hid hb1; clear hb1)
  go_ret
  rw [HN.out]
  exact ⟨rfl, HB.out⟩
end
/-- c is one of the characters that differ from r in case alone, or r. -/
def inOrb (r c : Int) : Bool := (List.range 4).any fun j => itF j r == c
theorem inOrb_at {r c : Int} {p j : Nat} (hp : Per r p) (hj : j < p) (h : itF j r = c) : inOrb r c = true :=
 List.any_eq_true.2 ⟨j, List.mem_range.2 (by have := hp.le; omega), by simpa using h⟩
theorem itF_per {r : Int} {p : Nat} (hp : Per r p) : ∀ j, ∃ i, i < p ∧ itF j r = itF i r
 | 0 => ⟨0, by have := hp.pos; omega, rfl⟩
 | j + 1 => by
  obtain ⟨i, hi, e⟩ := itF_per hp j
  by_cases h : i + 1 < p
  ·exact ⟨i + 1, h, by simp only [itF]; rw [e]⟩
  ·have : i + 1 = p := by omega
   refine ⟨0, by have := hp.pos; omega, ?_⟩
   have hb := hp.back
   rw [← this] at hb
   simp only [itF] at hb ⊢
   rw [e, hb]
theorem inOrb_no {r c : Int} {p : Nat} (hp : Per r p) (h : ∀ j, j < p → itF j r ≠ c) : inOrb r c = false := by
 cases e : inOrb r c with
 | false => rfl
 | true =>
  obtain ⟨j, _, hj⟩ := List.any_eq_true.1 e
  obtain ⟨i, hi, he⟩ := itF_per hp j
  exact absurd (by rw [← he]; simpa using hj) (h i hi)
section
variable {B : Nat} (r c : Int) (w : World)
set_option maxRecDepth 100000 in
set_option maxHeartbeats 2000000 in
theorem folds_c (p : Nat) (hF : FoldV B w) (hp : Per r p) :
  Calls Tryd.prog 45 #[.int .i32 r, .int .i32 c] w fun e w' => e = .returned (.bool (inOrb r c)) ∧ ∃ q, w' = w.drewN q := by
 have HF := Lib.hid hF; clear hF
 have HP := Lib.hid hp; clear hp
 by_cases he : r = c
 ·have hs : inOrb r c = true := inOrb_at HP.out (j := 0) (by have := HP.out.pos; omega) he
  have HS := Lib.hid hs
  have hb : (r == c) = true := by simpa using he
  clear he hs
  go_enter Tryd.func45, Tryd.ntmps45
  go_wp2
  go_ret
  rw [HS.out]
  exact ⟨rfl, 0, rfl⟩
 ·have hb : (r == c) = false := by simpa using he
  have HE := Lib.hid he; clear he
  go_enter Tryd.func45, Tryd.ntmps45
  go_wp2_with (go_at_call 63; refine (sf_any _ _ HF.out).mono ?_; rintro e w1 ⟨rfl, q1, rfl⟩)
  go_loopg [5] (p + 1) (fun g s5 wx => ∃ k q : Nat, 1 ≤ k ∧ k ≤ p ∧ p - k < g ∧ s5 = .int .i32 (itF k r) ∧ wx = w.drewN q ∧ Hid (∀ j, j < k → itF j r ≠ c))
  case atStart => exact ⟨1, q1, by omega, HP.out.pos, by omega, rfl, rfl, Lib.hid fun j hj => by
   have h0 : j = 0 := by omega
   rw [h0]
   exact HE.out⟩
  case round =>
   obtain ⟨k, q, hk1, hk2, hg, rfl, rfl, HN⟩ := hrel
   obtain ⟨g', rfl⟩ : ∃ g', gk = g' + 1 := ⟨gk - 1, by omega⟩
   by_cases hlt : k < p
   ·have hne : (itF k r != r) = true := by simpa using HP.out.first k hk1 hlt
    by_cases hck : itF k r = c
    ·have hs : inOrb r c = true := inOrb_at HP.out hlt hck
     have HS := Lib.hid hs
     have hb2 : (itF k r == c) = true := by simpa using hck
     clear hck hs
     go_wp2
     go_ret
     rw [HS.out]
     exact ⟨rfl, q, rfl⟩
    ·have hb2 : (itF k r == c) = false := by simpa using hck
     have HCK := Lib.hid hck; clear hck
     go_wp2_with (go_at_call 63; refine (sf_any _ _ (HF.out.drewN q)).mono ?_; rintro e w1 ⟨rfl, q2, rfl⟩)
     go_roundg g'
     case rel => exact ⟨k + 1, q + q2, by omega, by omega, by omega, rfl, rfl, Lib.hid fun j hj => if h : j = k then h ▸ HCK.out else HN.out j (by omega)⟩
     case measure => omega
   ·obtain rfl : k = p := by omega
    have hne : (itF k r != r) = false := by simpa using HP.out.back
    have hs : inOrb r c = false := inOrb_no HP.out HN.out
    have HS := Lib.hid hs; clear hs
    go_wp2
    go_ret
    rw [HS.out]
    exact ⟨rfl, q, rfl⟩
end
theorem class_l (l : List Int) (c : Int) (hl : l.length ≤ 2147483647) : ∀ (k i : Nat), l.length + 1 < i + k → i ≤ l.length + 1 → ∃ r, spec_reInClass.l0 k l c (i : Int) = some r
 | 0, i, h, hi => by omega
 | k + 1, i, h, hi => by
  have hw1 : wrap64 ((i : Int) + 1) = ((i + 1 : Nat) : Int) := by unfold wrap64; omega
  have hw2 : wrap64 ((i : Int) + 2) = ((i + 2 : Nat) : Int) := by unfold wrap64; omega
  simp only [spec_reInClass.l0, hw1, hw2]
  by_cases h1 : i + 1 < l.length
  ·have nx := class_l l c hl k (i + 2) (by omega) (by omega)
   rw [if_pos (by omega)]
   repeat' split
   all_goals first
    | exact nx
    | exact ⟨_, rfl⟩
    | omega
  ·rw [if_neg (by omega)]
   exact ⟨_, rfl⟩
def classF (l : List Int) (c : Int) : Bool := (spec_reInClass.f (l.length + 2) l c).getD false
theorem class_f (l : List Int) (c : Int) (hl : l.length ≤ 2147483647) : spec_reInClass.f (l.length + 2) l c = some (classF l c) := by
 obtain ⟨r, hr⟩ := class_l l c hl (l.length + 2) 0 (by omega) (by omega)
 have : spec_reInClass.f (l.length + 2) l c = some r := hr
 unfold classF
 rw [this]; rfl
/-- Whether an instruction takes a character. -/
def takesF (I : In) (c : Int) : Bool :=
 if I.f0 = 8 then I.f3.getD 0 0 == c else if I.f0 = 9 then true else if I.f0 = 10 then c != 10
 else if I.f3.length = 1 then (c == I.f3.getD 0 0 || (I.f2 == 1 && inOrb (I.f3.getD 0 0) c)) else classF I.f3 c
section
variable {B : Nat} (I : In) (A3 : Option Addr) (c3 : Nat) (c : Int) (w : World)
set_option maxRecDepth 100000 in
set_option maxHeartbeats 4000000 in
theorem takes_c (hF : FoldV B w) (hB : B ≤ w.heap.size) (hg : Kd.C (Kd.int .i32) w A3 I.f3.length I.f3) (hl3 : I.f3.length ≤ c3) (hl : I.f3.length ≤ 2147483647)
  (h8 : I.f0 = 8 → 0 < I.f3.length) (h7 : I.f0 ≠ 8 → I.f0 ≠ 9 → I.f0 ≠ 10 → I.f3.length = 1 → ∃ p, Per (I.f3.getD 0 0) p) :
  Calls Tryd.prog 23 #[.agg #[.int .i64 I.f0, .int .i64 I.f1, .int .i64 I.f2, .slice A3 I.f3.length c3], .int .i32 c] w fun e w' => e = .returned (.bool (takesF I c)) ∧ Below w.heap.size w w' := by
 have CI : Hid (∀ W, Below w.heap.size w W → Calls Tryd.prog 46 #[.slice A3 I.f3.length c3, .int .i32 c] W fun e w' => e = .returned (.bool (classF I.f3 c)) ∧ ∃ q, w' = W.drewN q) :=
  Lib.hid fun W hW => (spec_reInClass.calls (I.f3.length + 2) A3 c3 I.f3 c _ W (Kd.C_below hg hW) hl3 (class_f I.f3 c hl)).mono fun e w' h => ⟨h.1, h.2.out⟩
 have HF := Lib.hid hF
 have HZ := Lib.hid (ints_kd hg)
 have hbB : Hid (∀ cs : Array Value, Below w.heap.size w (w.alloc (.cells cs 55))) := Lib.hid fun cs => (Below.refl _ _).alloc (Nat.le_refl _) _
 obtain ⟨op, f1, f2, rs⟩ := I
 simp only at *
 have H8 := Lib.hid h8
 have H7 := Lib.hid h7
 clear hF hg h8 h7
 by_cases o8 : op = 8
 ·have hz := HZ.out (H8.out o8)
  obtain ⟨b3, p3, rfl, hb3, hc3⟩ := hz
  have hc0 := hc3 0 (H8.out o8)
  have hpos : (0 : Int) < (rs.length : Int) := by have := H8.out o8; omega
  simp only [Nat.add_zero] at hc0
  have ht : takesF ⟨op, f1, f2, rs⟩ c = (rs.getD 0 0 == c) := if_pos o8
  generalize rs.getD 0 0 = r0 at *
  have b8 : (op == 8) = true := by simp [o8]
  have HT := Lib.hid ht
  have c0 : (w.alloc (.cells #[.int .i64 op, .int .i64 f1, .int .i64 f2, .slice (some ⟨b3, p3, none⟩) rs.length c3] 55)).cell? ⟨b3, p3, none⟩ = some (.int .i32 r0) := low (hbB.out _) hc0
  clear o8 ht hc3 hc0
  go_enter Tryd.func23, Tryd.ntmps23
  go_wp2
  go_ret
  rw [HT.out]
  exact ⟨rfl, hbB.out _⟩
 ·have b8 : (op == 8) = false := by simpa using o8
  by_cases o9 : op = 9
  ·have ht : takesF ⟨op, f1, f2, rs⟩ c = true := by simp [takesF, o9]
   have b9 : (op == 9) = true := by simp [o9]
   have HT := Lib.hid ht
   clear o8 o9 ht
   go_enter Tryd.func23, Tryd.ntmps23
   go_wp2
   go_ret
   rw [HT.out]
   exact ⟨rfl, hbB.out _⟩
  ·have b9 : (op == 9) = false := by simpa using o9
   by_cases o10 : op = 10
   ·have ht : takesF ⟨op, f1, f2, rs⟩ c = (c != 10) := by simp [takesF, o10]
    have b10 : (op == 10) = true := by simp [o10]
    have HT := Lib.hid ht
    clear o8 o9 o10 ht
    go_enter Tryd.func23, Tryd.ntmps23
    go_wp2
    go_ret
    rw [HT.out]
    exact ⟨rfl, hbB.out _⟩
   ·have b10 : (op == 10) = false := by simpa using o10
    have ht : takesF ⟨op, f1, f2, rs⟩ c = if rs.length = 1 then (c == rs.getD 0 0 || (f2 == 1 && inOrb (rs.getD 0 0) c)) else classF rs c := by simp [takesF, o8, o9, o10]
    by_cases h1 : rs.length = 1
    ·have hz := HZ.out (by omega)
     obtain ⟨b3, p3, rfl, hb3, hc3⟩ := hz
     have hc0 := hc3 0 (by omega)
     simp only [Nat.add_zero] at hc0
     rw [if_pos h1] at ht
     obtain ⟨p, hp⟩ := H7.out o8 o9 o10 h1
     have CFo : Hid (∀ W, Below w.heap.size w W → Calls Tryd.prog 45 #[.int .i32 (rs.getD 0 0), .int .i32 c] W fun e w' => e = .returned (.bool (inOrb (rs.getD 0 0) c)) ∧ ∃ q, w' = W.drewN q) :=
      Lib.hid fun W hW => folds_c (rs.getD 0 0) c W p (HF.out.below hW hB) hp
     have c0 : (w.alloc (.cells #[.int .i64 op, .int .i64 f1, .int .i64 f2, .slice (some ⟨b3, p3, none⟩) rs.length c3] 55)).cell? ⟨b3, p3, none⟩ = some (.int .i32 (rs.getD 0 0)) := low (hbB.out _) hc0
     generalize rs.getD 0 0 = r0 at *
     rw [h1] at c0 ⊢
     have HBb := hbB.out #[.int .i64 op, .int .i64 f1, .int .i64 f2, .slice (some ⟨b3, p3, none⟩) 1 c3]
     have HB2 := Lib.hid HBb
     have HT := Lib.hid ht
     clear o8 o9 o10 ht hc3 hc0 HBb hp h1
     by_cases e1 : c = r0
     ·have be : (c == r0) = true := by simp [e1]
      clear e1
      go_enter Tryd.func23, Tryd.ntmps23
      go_wp2
      go_ret
      rw [HT.out, be]
      exact ⟨rfl, HB2.out⟩
     ·have be : (c == r0) = false := by simp [e1]
      clear e1
      by_cases e2 : f2 = 1
      ·have bf : (f2 == 1) = true := by simp [e2]
       clear e2
       go_enter Tryd.func23, Tryd.ntmps23
       go_wp2_with (go_at_call 45; refine (Calls.mono (CFo.out _ HB2.out) ?_); rintro e w1 ⟨rfl, q1, rfl⟩)
       go_ret
       rw [HT.out, be, bf]
       exact ⟨by simp, Mem.below_drewN HB2.out q1⟩
      ·have bf : (f2 == 1) = false := by simp [e2]
       clear e2
       go_enter Tryd.func23, Tryd.ntmps23
       go_wp2
       go_ret
       rw [HT.out, be, bf]
       exact ⟨by simp, HB2.out⟩
    ·have bl : ((rs.length : Int) == 1) = false := by simp; omega
     rw [if_neg h1] at ht
     have HT := Lib.hid ht
     have HB2 := Lib.hid (hbB.out #[.int .i64 op, .int .i64 f1, .int .i64 f2, .slice A3 rs.length c3])
     clear o8 o9 o10 ht h1
     go_enter Tryd.func23, Tryd.ntmps23
     go_wp2_with (go_at_call 46; refine (Calls.mono (CI.out _ HB2.out) ?_); rintro e w1 ⟨rfl, q1, rfl⟩)
     go_ret
     rw [HT.out]
     exact ⟨rfl, Mem.below_drewN HB2.out q1⟩
end
end Go.Proofs.YtcncclglmgdinaaDoor.Ps
