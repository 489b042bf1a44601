/- unicode.SimpleFold as a function of numbers, and its orbits: each has at most four characters, and only characters from 65 to 125251 have another one. -/
import Derived.Lib.CaseU
import Derived.Shelf.Unicode.CaseTo
namespace Go.Proofs.YtcncclglmgdinaaDoor.Fold
open Go.Lib
set_option linter.unusedVariables false
def asciiL : List Nat := [0, 1, 2, 3, 4, 5, 6, 7, 8, 9, 10, 11, 12, 13, 14, 15, 16, 17, 18, 19, 20, 21, 22, 23, 24, 25, 26, 27, 28, 29, 30, 31, 32, 33, 34, 35, 36, 37, 38, 39, 40, 41, 42, 43, 44, 45, 46, 47, 48, 49, 50, 51, 52, 53, 54, 55, 56, 57, 58, 59, 60, 61, 62, 63, 64, 97, 98, 99, 100, 101, 102, 103, 104, 105, 106, 107, 108, 109, 110, 111, 112, 113, 114, 115, 116, 117, 118, 119, 120, 121, 122, 91, 92, 93, 94, 95, 96, 65, 66, 67, 68, 69, 70, 71, 72, 73, 74, 8490, 76, 77, 78, 79, 80, 81, 82, 383, 84, 85, 86, 87, 88, 89, 90, 123, 124, 125, 126, 127]
def orbL : List (Nat × Nat) := [(75, 107), (83, 115), (107, 8490), (115, 383), (181, 924), (197, 229), (223, 7838), (229, 8491), (304, 304), (305, 305), (383, 83), (452, 453), (453, 454), (454, 452), (455, 456), (456, 457), (457, 455), (458, 459), (459, 460), (460, 458), (497, 498), (498, 499), (499, 497), (837, 921), (912, 8147), (914, 946), (917, 949), (920, 952), (921, 953), (922, 954), (924, 956), (928, 960), (929, 961), (931, 962), (934, 966), (937, 969), (944, 8163), (946, 976), (949, 1013), (952, 977), (953, 8126), (954, 1008), (956, 181), (960, 982), (961, 1009), (962, 963), (963, 931), (966, 981), (969, 8486), (976, 914), (977, 1012), (981, 934), (982, 928), (1008, 922), (1009, 929), (1012, 920), (1013, 917), (1042, 1074), (1044, 1076), (1054, 1086), (1057, 1089), (1058, 1090), (1066, 1098), (1074, 7296), (1076, 7297), (1086, 7298), (1089, 7299), (1090, 7300), (1098, 7302), (1122, 1123), (1123, 7303), (7296, 1042), (7297, 1044), (7298, 1054), (7299, 1057), (7300, 7301), (7301, 1058), (7302, 1066), (7303, 1122), (7304, 42570), (7776, 7777), (7777, 7835), (7835, 7776), (7838, 223), (8126, 837), (8147, 912), (8163, 944), (8486, 937), (8490, 75), (8491, 197), (42570, 42571), (42571, 7304), (64261, 64262), (64262, 64261)]
def orbA : Array (Nat × Nat) := orbL.toArray
/-- The binary search for the first place whose first number is not below r. -/
def orbIdx (r : Int) : Nat → Nat → Nat → Nat
 | 0, lo, _ => lo
 | g + 1, lo, hi => if lo < hi then (if ((orbA.getD ((lo + hi) / 2) (0, 0)).1 : Int) < r then orbIdx r g ((lo + hi) / 2 + 1) hi else orbIdx r g lo ((lo + hi) / 2)) else lo
/-- What it is by the ranges of cases. -/
def caseF (r : Int) : Int :=
 match lookupIdx caseA r (caseA.size + 1) 0 caseA.size with
 | some i => if convertR 1 r (caseA.getD i (0, 0, 0, 0, 0)) = r then convertR 0 r (caseA.getD i (0, 0, 0, 0, 0)) else convertR 1 r (caseA.getD i (0, 0, 0, 0, 0))
 | none => r
def SF (r : Int) : Int :=
 if r < 0 then r else if 1114111 < r then r else if r < 128 then (asciiL.getD r.toNat 0 : Nat) else
 if orbIdx r 95 0 94 < 94 ∧ ((orbA.getD (orbIdx r 95 0 94) (0, 0)).1 : Int) = r then ((orbA.getD (orbIdx r 95 0 94) (0, 0)).2 : Int) else caseF r
def okN (a : Int) : Bool := decide (0 ≤ a) && decide (a ≤ 1114111)
def chk (r : Int) : Bool :=
 let a := SF r
 okN a && (decide (a = r) || (decide (65 ≤ r) && decide (r ≤ 125251) && (let b := SF a; okN b && (decide (b = r) || (let c := SF b; okN c && (decide (c = r) || (let d := SF c; okN d && decide (d = r))))))))
set_option maxRecDepth 1000000 in
theorem chk_ascii : ((List.range 128).all fun d => chk (d : Nat)) = true := by decide +kernel
set_option maxRecDepth 1000000 in
theorem chk_orb : (orbL.all fun x => chk (x.1 : Nat)) = true := by decide +kernel
/-- The row in which the images of a row's characters lie. -/
def certL : List Nat := [0, 0, 0, 5, 6, 3, 4, 14, 8, 0, 0, 11, 12, 13, 7, 15, 0, 80, 87, 19, 88, 21, 89, 23, 63, 90, 91, 27, 93, 95, 69, 100, 99, 33, 76, 306, 104, 106, 72, 107, 40, 109, 42, 111, 44, 113, 46, 115, 48, 117, 50, 51, 70, 0, 0, 0, 0, 0, 0, 0, 0, 0, 62, 24, 64, 0, 0, 0, 68, 30, 52, 71, 38, 73, 262, 75, 34, 263, 271, 79, 17, 114, 116, 83, 267, 265, 268, 18, 20, 22, 25, 26, 291, 28, 292, 29, 304, 286, 290, 32, 31, 294, 259, 293, 36, 266, 37, 39, 261, 41, 301, 43, 296, 45, 81, 47, 82, 49, 297, 295, 0, 121, 122, 154, 148, 131, 132, 136, 137, 133, 135, 125, 126, 129, 0, 130, 127, 128, 143, 0, 0, 0, 0, 138, 144, 0, 0, 152, 124, 0, 0, 151, 147, 153, 123, 158, 157, 156, 155, 159, 160, 163, 162, 161, 164, 166, 165, 275, 276, 277, 184, 185, 309, 174, 173, 0, 0, 0, 0, 0, 0, 0, 0, 183, 170, 171, 283, 260, 302, 189, 0, 0, 192, 194, 193, 196, 195, 198, 197, 200, 199, 202, 201, 207, 208, 209, 210, 203, 204, 205, 206, 212, 211, 228, 232, 236, 243, 240, 244, 220, 219, 222, 221, 224, 223, 227, 229, 225, 213, 226, 0, 233, 214, 231, 235, 234, 215, 239, 241, 237, 217, 238, 245, 216, 218, 242, 0, 0, 0, 250, 249, 252, 251, 253, 255, 254, 257, 256, 258, 102, 187, 108, 74, 77, 264, 85, 105, 84, 86, 269, 270, 78, 272, 273, 274, 167, 168, 169, 278, 279, 280, 281, 282, 186, 284, 285, 97, 287, 300, 289, 98, 92, 94, 103, 101, 119, 112, 118, 308, 299, 288, 110, 188, 303, 96, 305, 35, 307, 298, 172, 311, 310, 313, 312, 315, 314, 320, 321, 322, 323, 316, 317, 318, 319, 325, 324, 327, 326, 329, 328, 331, 330, 333, 332, 335, 334]
def cv (x : CaseRow) (r : Int) : Int := if convertR 1 r x = r then convertR 0 r x else convertR 1 r x
def orbHas (r : Nat) : Bool := orbL.any fun x => x.1 == r
def elChk (x y : CaseRow) (r : Nat) : Bool :=
 decide (r < 128) || orbHas r || decide (cv x r = r) ||
  (decide (65 ≤ r) && decide (r ≤ 125251) && decide (128 ≤ cv x r) && decide (cv x r ≤ 1114111) && decide ((y.1 : Int) ≤ cv x r) && decide (cv x r ≤ (y.2.1 : Int)) && !orbHas (cv x r).toNat && decide (cv y (cv x r) = r))
def rowChk (x y : CaseRow) : Bool := (List.range (x.2.1 + 1 - x.1)).all fun d => elChk x y (x.1 + d)
set_option maxRecDepth 1000000 in
theorem rows_chk : ((caseT.zip certL).all fun x => rowChk x.1 (caseT.getD x.2 (0, 0, 0, 0, 0))) = true := by decide +kernel
theorem cert_len : certL.length = 336 := by decide +kernel
theorem cert_lt : (certL.all fun j => decide (j < 336)) = true := by decide +kernel
def sortedB : List CaseRow → Bool
 | x :: y :: l => decide (x.1 ≤ x.2.1) && decide (x.2.1 < y.1) && sortedB (y :: l)
 | [x] => decide (x.1 ≤ x.2.1)
 | [] => true
set_option maxRecDepth 1000000 in
theorem case_sorted : sortedB caseT = true := by decide +kernel
theorem sorted_le : ∀ (l : List CaseRow), sortedB l = true → ∀ i (h : i < l.length), l[i].1 ≤ l[i].2.1
 | [], _, i, h => by simp at h
 | [x], hs, i, h => by
  simp [sortedB] at hs
  have : i = 0 := by simp at h; omega
  subst this; simpa using hs
 | x :: y :: l, hs, i, h => by
  simp only [sortedB, Bool.and_eq_true, decide_eq_true_eq] at hs
  cases i with
  | zero => exact hs.1.1
  | succ i => exact sorted_le (y :: l) hs.2 i (by simpa using h)
theorem sorted_lt : ∀ (l : List CaseRow), sortedB l = true → ∀ i j (hij : i < j) (h : j < l.length), (l[i]'(by omega)).2.1 < l[j].1
 | [], _, i, j, _, h => by simp at h
 | [x], _, i, j, hij, h => by simp at h; omega
 | x :: y :: l, hs, i, j, hij, h => by
  simp only [sortedB, Bool.and_eq_true, decide_eq_true_eq] at hs
  cases j with
  | zero => omega
  | succ j =>
   cases i with
   | zero =>
    cases j with
    | zero => exact hs.1.2
    | succ j =>
     have h1 := sorted_lt (y :: l) hs.2 0 (j + 1) (by omega) (by simpa using h)
     have h2 := sorted_le (y :: l) hs.2 0 (by simp)
     simp only [List.getElem_cons_zero, List.getElem_cons_succ] at h1 h2 ⊢
     omega
   | succ i => exact sorted_lt (y :: l) hs.2 i j (by omega) (by simpa using h)
theorem caseT_len : caseT.length = 336 := by decide +kernel
theorem caseA_get (i : Nat) (h : i < 336) : caseA.getD i (0, 0, 0, 0, 0) = caseT[i]'(by rw [caseT_len]; exact h) := by
 have h' : i < caseT.length := by rw [caseT_len]; exact h
 simp [caseA, Array.getD, h']
theorem caseA_sz : caseA.size = 336 := by simp [caseA, caseT_len]
theorem lookup_of (i : Nat) (hi : i < 336) (r : Int) (h1 : ((caseA.getD i (0, 0, 0, 0, 0)).1 : Int) ≤ r) (h2 : r ≤ ((caseA.getD i (0, 0, 0, 0, 0)).2.1 : Int)) :
  ∀ f lo hi', lo ≤ i → i < hi' → hi' ≤ 336 → hi' - lo < f → lookupIdx caseA r f lo hi' = some i := by
 intro f
 induction f with
 | zero => intro lo hi' _ _ _ h; omega
 | succ f ih =>
  intro lo hi' hlo hhi hle hf
  have hlt : lo < hi' := by omega
  simp only [lookupIdx, if_pos hlt]
  generalize hm : (lo + hi') / 2 = m
  have hm1 : lo ≤ m ∧ m < hi' := by omega
  by_cases he : m = i
  ·subst he; rw [if_pos ⟨h1, h2⟩]
  ·rw [caseA_get i hi] at h1 h2
   rw [caseA_get m (by omega)]
   have hle_m := sorted_le caseT case_sorted m (by rw [caseT_len]; omega)
   rcases Nat.lt_or_gt_of_ne he with hmi | him
   ·have := sorted_lt caseT case_sorted m i hmi (by rw [caseT_len]; exact hi)
    rw [if_neg (by omega), if_neg (by omega)]
    exact ih _ _ (by omega) hhi hle (by omega)
   ·have := sorted_lt caseT case_sorted i m him (by rw [caseT_len]; omega)
    rw [if_neg (by omega), if_pos (by omega)]
    exact ih _ _ hlo (by omega) (by omega) (by omega)
theorem caseF_row (i : Nat) (hi : i < 336) (r : Int) (h1 : ((caseA.getD i (0, 0, 0, 0, 0)).1 : Int) ≤ r) (h2 : r ≤ ((caseA.getD i (0, 0, 0, 0, 0)).2.1 : Int)) : caseF r = cv (caseA.getD i (0, 0, 0, 0, 0)) r := by
 unfold caseF cv
 rw [caseA_sz, lookup_of i hi r h1 h2 337 0 336 (by omega) hi (by omega) (by omega)]
theorem orb_none (r : Nat) (h : orbHas r = false) (k : Nat) (hk : k < 94) : (orbA.getD k (0, 0)).1 ≠ r := by
 intro e
 have hl : k < orbL.length := hk
 have hm : orbL[k] ∈ orbL := List.getElem_mem hl
 have hg : orbA.getD k (0, 0) = orbL[k] := by simp [orbA, Array.getD, hl]
 rw [hg] at e
 have : orbHas r = true := List.any_eq_true.2 ⟨_, hm, by simp [e]⟩
 rw [h] at this; cases this
theorem SF_case (r : Nat) (h0 : 128 ≤ r) (h1 : r ≤ 1114111) (h : orbHas r = false) : SF (r : Int) = caseF r := by
 unfold SF
 rw [if_neg (by omega), if_neg (by omega), if_neg (by omega), if_neg]
 rintro ⟨hk, e⟩
 exact orb_none r h _ hk (by exact_mod_cast e)
theorem SF_row (i : Nat) (hi : i < 336) (r : Nat) (h0 : 128 ≤ r) (hm : r ≤ 1114111) (h : orbHas r = false) (h1 : ((caseA.getD i (0, 0, 0, 0, 0)).1 : Int) ≤ r) (h2 : (r : Int) ≤ ((caseA.getD i (0, 0, 0, 0, 0)).2.1 : Int)) : SF (r : Int) = cv (caseA.getD i (0, 0, 0, 0, 0)) r := by
 rw [SF_case r h0 hm h, caseF_row i hi r h1 h2]
theorem chk_self (r : Int) (h0 : 0 ≤ r) (h1 : r ≤ 1114111) (h : SF r = r) : chk r = true := by
 simp [chk, h, okN, h0, h1]
theorem chk_two (r a : Int) (h0 : 65 ≤ r) (h1 : r ≤ 125251) (h : SF r = a) (h2 : SF a = r) (h3 : 0 ≤ a) (h4 : a ≤ 1114111) : chk r = true := by
 have g0 : decide (0 ≤ r) = true := by simp; omega
 have g1 : decide (r ≤ 1114111) = true := by simp; omega
 simp [chk, h, h2, okN, h0, h1, h3, h4, g0, g1]
/-- Of every character the ways of folding lead back to it, in at most four steps. -/
theorem chk_all (r : Int) (h0 : 0 ≤ r) (h1 : r ≤ 1114111) : chk r = true := by
 obtain ⟨n, rfl⟩ := Int.eq_ofNat_of_zero_le h0
 by_cases ha : n < 128
 ·exact List.all_eq_true.1 chk_ascii n (List.mem_range.2 ha)
 by_cases ho : orbHas n = true
 ·obtain ⟨x, hx, e⟩ := List.any_eq_true.1 ho
  have := List.all_eq_true.1 chk_orb x hx
  rw [beq_iff_eq] at e
  rwa [e] at this
 have ho' : orbHas n = false := by simpa using ho
 have hn : n ≤ 1114111 := by omega
 cases hl : lookupIdx caseA (n : Int) (caseA.size + 1) 0 caseA.size with
 | none => exact chk_self _ (by omega) (by omega) (by rw [SF_case n (by omega) hn ho']; unfold caseF; rw [hl])
 | some i =>
  obtain ⟨hil, hlo, hhi⟩ := lookupIdx_some caseA (n : Int) _ _ _ i hl
  rw [caseA_sz] at hil
  have hsf := SF_row i hil n (by omega) hn ho' hlo hhi
  have hz : i < (caseT.zip certL).length := by rw [List.length_zip, caseT_len, cert_len]; exact hil
  have hrow := List.all_eq_true.1 rows_chk _ (List.getElem_mem hz)
  rw [List.getElem_zip] at hrow
  have hci : i < certL.length := by rw [cert_len]; exact hil
  have hcl : certL[i] < 336 := by simpa using List.all_eq_true.1 cert_lt _ (List.getElem_mem hci)
  rw [caseA_get i hil] at hlo hhi hsf
  have hel := List.all_eq_true.1 hrow (n - (caseT[i]'(by rw [caseT_len]; exact hil)).1) (List.mem_range.2 (by dsimp only; omega))
  dsimp only at hel
  rw [show (caseT[i]'(by rw [caseT_len]; exact hil)).1 + (n - (caseT[i]'(by rw [caseT_len]; exact hil)).1) = n by omega] at hel
  generalize caseT[i]'(by rw [caseT_len]; exact hil) = x at *
  have hy : caseT.getD certL[i] (0, 0, 0, 0, 0) = caseA.getD certL[i] (0, 0, 0, 0, 0) := by
   rw [caseA_get _ hcl, List.getD_eq_getElem?_getD, List.getElem?_eq_getElem (by rw [caseT_len]; exact hcl), Option.getD_some]
  rw [hy] at hel
  generalize hj : certL[i] = j at *
  unfold elChk at hel
  simp only [Bool.or_eq_true, Bool.and_eq_true, decide_eq_true_eq, Bool.not_eq_true'] at hel
  rcases hel with ((h | h) | h) | h
  ·omega
  ·rw [ho'] at h; cases h
  ·exact chk_self _ (by omega) (by omega) (by rw [hsf, h])
  ·obtain ⟨⟨⟨⟨⟨⟨⟨g1, g2⟩, g3⟩, g4⟩, g5⟩, g6⟩, g7⟩, g8⟩ := h
   obtain ⟨b, hb⟩ := Int.eq_ofNat_of_zero_le (show 0 ≤ cv x n by omega)
   rw [hb] at g3 g4 g5 g6 g7 g8 hsf
   have hs2 := SF_row j hcl b (by omega) (by omega) (by simpa using g7) g5 g6
   exact chk_two _ b (by omega) (by omega) hsf (by rw [hs2, g8]) (by omega) (by omega)
end Go.Proofs.YtcncclglmgdinaaDoor.Fold
