/- The package's reader of an escape: hexadecimal digits. -/
import Derived.Test.YtholpemmakdglaaDoorEscP
import Derived.StillTailTactics
import Derived.Deep.RegionHeld3
namespace Go.Proofs.YtholpemmakdglaaDoor.Esc
open Go.RowKit Go.Lib Tx
set_option linter.unusedVariables false
set_option maxRecDepth 100000 in
set_option maxHeartbeats 4000000 in
theorem next_end (t : ByteArray) (w : World) (ht : t.size = 0) (hT : U8 w) :
    Calls Tryd.prog 77 #[.string t] w fun e w' => e = .returned (.tuple #[.int .i32 65533, .string t, .nilIface]) ∧ Below w.heap.size w w' := by
  have CD := Lib.hid (dec_0 t w ht hT)
  have htz : (0 : Int) ≤ (t.size : Int) := by omega
  clear hT ht
  go_enter Tryd.func77, Tryd.ntmps77
  go_wp2_with (go_at_call 26; refine CD.out.mono ?_; rintro e w1 ⟨rfl, hb1⟩)
  go_quiet (fail)
  go_wp2
  go_ret3
  exact ⟨rfl, below_dn hb1 _⟩
/-- What the reader hands on, in either case. -/
theorem nr_good {s : ByteArray} {k : Nat} {w w' : World} {e : Ending} (hb : bad s k = false) (h : NrPost s k w e w') : e = .returned (.tuple #[.int .i32 ((Utf8.decode s k).1 : Nat), .string (s.extract (k + (Utf8.decode s k).2) s.size), .nilIface]) ∧ Below w.heap.size w w' := by
  obtain ⟨h1, h2⟩ := h
  rw [if_neg (by rw [hb]; exact Bool.false_ne_true)] at h2
  exact ⟨h2, h1⟩
theorem nr_bad {s : ByteArray} {k : Nat} {w w' : World} {e : Ending} (hb : bad s k = true) (h : NrPost s k w e w') : ∃ g ex, e = .returned (.tuple #[.int .i32 0, .string ByteArray.empty, .iface 93 (.pointer (some ⟨g, 0, none⟩))]) ∧ Below w.heap.size w w' ∧ w'.cell? ⟨g, 0, none⟩ = some (.string (msg 9)) ∧ w'.cell? ⟨g, 1, none⟩ = some (.string ex) := by
  obtain ⟨h1, h2⟩ := h
  rw [if_pos hb] at h2
  obtain ⟨v, rfl, g, ex, rfl, c0, c1⟩ := h2
  exact ⟨g, ex, rfl, h1, c0, c1⟩
set_option maxRecDepth 100000 in
set_option maxHeartbeats 4000000 in
theorem pe_x0 (s : ByteArray) (p : Value) (w : World) (h1 : 1 < s.size) (hm : s.size ≤ 1000) (hT : U8 w) (hb : bad s 1 = false) (hc : (Utf8.decode s 1).1 = 120) (hk : s.size ≤ 1 + (Utf8.decode s 1).2) :
    Calls Tryd.prog 64 #[p, .string s] w (EscPost (esc s) s w) := by
  have he : esc s = hexE s (1 + (Utf8.decode s 1).2) := by
    unfold esc escC
    rw [if_neg (by omega), if_neg (by rw [hb]; simp), hc, if_neg (by rintro (h | h); exact absurd h (by decide); exact absurd h.2.1 (by decide)), if_pos rfl]
  rw [he]
  have hsz : (s.extract 1 s.size).size = s.size - 1 := by rw [Lib.tail_size]
  have hem := toList_full (s := s.extract 1 s.size) (by omega)
  have CN := Lib.hid (next_c s 1 w h1 hm hT)
  have hfit := decode_fits s 1 h1
  have hmax := decode_max s 1
  have hts := Lib.tail_size s (1 + (Utf8.decode s 1).2)
  have HB := Lib.hid hb
  have hb0 := hb
  clear hsz hb
  have HC := Lib.hid hc
  have HT := Lib.hid hT
  clear he hT hb0 hc hmax hts hfit
  have CN2 : Hid (∀ e w', NrPost s 1 w e w' → Below w.heap.size w w' ∧ e = .returned (.tuple #[.int .i32 120, .string (s.extract (1 + (Utf8.decode s 1).2) s.size), .nilIface])) := Lib.hid fun e w' h => by
    obtain ⟨hb1, hr⟩ := h
    rw [if_neg (by rw [HB.out]; exact Bool.false_ne_true), HC.out] at hr
    exact ⟨hb1, hr⟩
  clear HC HB
  generalize 1 + (Utf8.decode s 1).2 = k0 at *
  have hx : hexE s k0 = (0, 0, 4) := by unfold hexE; rw [if_pos hk]
  rw [hx]
  have hz := Lib.tail_size s k0
  have hem2 := toList_empty (s := s.extract k0 s.size) (by omega)
  have htl : (s.extract k0 s.size).size ≤ s.size := by omega
  clear hz hx hk
  go_enter Tryd.func64, Tryd.ntmps64
  go_wp2_with fail
  go_step3
  go_wp2_with (go_at_call 77; refine CN.out.mono ?_; rintro e w1 hr; obtain ⟨hb1, rfl⟩ := CN2.out _ _ hr)
  have HB1 := Lib.hid hb1
  clear hb1 hr
  go_step3
  go_upto_region 66 with fail
  generalize s.extract k0 s.size = t at *
  have hw1 : IntKind.i64.wrap ((s.size : Int) - (t.size : Int)) = (s.size : Int) - (t.size : Int) := by apply IntWalk.i64_in; omega
  have hw2 : 0 ≤ (s.size : Int) - (t.size : Int) := by omega
  have hw3 : (s.size : Int) - (t.size : Int) ≤ (s.size : Int) := by omega
  go_region_held3 (fun _ => True) (first | trivial | go_keep) (fail)
  go_wp2
  try rw [Exit.noGoto_ret]
  go_ret3
  exact ⟨(HB1.out.alloc HB1.out.size _).drew, _, rfl, _, _, rfl, by simp [msg], by simp; rfl⟩
set_option maxRecDepth 100000 in
set_option maxHeartbeats 4000000 in
theorem pe_xbad (s : ByteArray) (p : Value) (w : World) (h1 : 1 < s.size) (hm : s.size ≤ 1000) (hT : U8 w) (hb : bad s 1 = false) (hc : (Utf8.decode s 1).1 = 120) (hk : 1 + (Utf8.decode s 1).2 < s.size) (hb2 : bad s (1 + (Utf8.decode s 1).2) = true) :
    Calls Tryd.prog 64 #[p, .string s] w (EscPost (esc s) s w) := by
  have he : esc s = hexE s (1 + (Utf8.decode s 1).2) := by
    unfold esc escC
    rw [if_neg (by omega), if_neg (by rw [hb]; simp), hc, if_neg (by rintro (h | h); exact absurd h (by decide); exact absurd h.2.1 (by decide)), if_pos rfl]
  rw [he]
  have hsz : (s.extract 1 s.size).size = s.size - 1 := by rw [Lib.tail_size]
  have hem := toList_full (s := s.extract 1 s.size) (by omega)
  have CN := Lib.hid (next_c s 1 w h1 hm hT)
  have hfit := decode_fits s 1 h1
  have hmax := decode_max s 1
  have hts := Lib.tail_size s (1 + (Utf8.decode s 1).2)
  have HB := Lib.hid hb
  have hb0 := hb
  clear hsz hb
  have HC := Lib.hid hc
  have HT := Lib.hid hT
  clear he hT hb0 hc hmax hts hfit
  have CN2 : Hid (∀ e w', NrPost s 1 w e w' → Below w.heap.size w w' ∧ e = .returned (.tuple #[.int .i32 120, .string (s.extract (1 + (Utf8.decode s 1).2) s.size), .nilIface])) := Lib.hid fun e w' h => by
    obtain ⟨hb1, hr⟩ := h
    rw [if_neg (by rw [HB.out]; exact Bool.false_ne_true), HC.out] at hr
    exact ⟨hb1, hr⟩
  clear HC HB
  generalize 1 + (Utf8.decode s 1).2 = k0 at *
  have hx : hexE s k0 = (0, 0, 9) := by unfold hexE; rw [if_neg (by omega), if_pos hb2]
  rw [hx]
  have hz := Lib.tail_size s k0
  have hem2 := toList_full (s := s.extract k0 s.size) (by omega)
  have CX : Hid (∀ w1, Below w.heap.size w w1 → Calls Tryd.prog 77 #[.string (s.extract k0 s.size)] w1 (NrPost s k0 w1)) := Lib.hid fun w1 h => next_c s k0 w1 hk hm (Utf8Tabs_below HT.out h)
  have HBB := Lib.hid hb2
  clear hz hx hk hb2
  go_enter Tryd.func64, Tryd.ntmps64
  go_wp2_with fail
  go_step3
  go_wp2_with (go_at_call 77; refine CN.out.mono ?_; rintro e w1 hr; obtain ⟨hb1, rfl⟩ := CN2.out _ _ hr)
  have HB1 := Lib.hid hb1
  clear hb1 hr
  go_step3
  go_wp2_with (go_at_call 77; refine (CX.out _ HB1.out).mono ?_; rintro e w2 hr; obtain ⟨g, ex, rfl, hb2, c0, c1⟩ := nr_bad HBB.out hr; have HB2 := Lib.hid (HB1.out.trans (hb2.mono HB1.out.size)); clear hr hb2)
  try rw [Exit.noGoto_ret]
  go_ret3
  exact ⟨HB2.out, _, rfl, g, ex, rfl, c0, c1⟩
set_option maxRecDepth 100000 in
set_option maxHeartbeats 4000000 in
theorem pe_x1e (s : ByteArray) (p : Value) (w : World) (h1 : 1 < s.size) (hm : s.size ≤ 1000) (hT : U8 w) (hb : bad s 1 = false) (hc : (Utf8.decode s 1).1 = 120) (hk : 1 + (Utf8.decode s 1).2 < s.size) (hb2 : bad s (1 + (Utf8.decode s 1).2) = false) (h123 : (Utf8.decode s (1 + (Utf8.decode s 1).2)).1 ≠ 123) (hk2 : s.size ≤ 1 + (Utf8.decode s 1).2 + (Utf8.decode s (1 + (Utf8.decode s 1).2)).2) :
    Calls Tryd.prog 64 #[p, .string s] w (EscPost (esc s) s w) := by
  have he : esc s = hexE s (1 + (Utf8.decode s 1).2) := by
    unfold esc escC
    rw [if_neg (by omega), if_neg (by rw [hb]; simp), hc, if_neg (by rintro (h | h); exact absurd h (by decide); exact absurd h.2.1 (by decide)), if_pos rfl]
  rw [he]
  have hsz : (s.extract 1 s.size).size = s.size - 1 := by rw [Lib.tail_size]
  have hem := toList_full (s := s.extract 1 s.size) (by omega)
  have CN := Lib.hid (next_c s 1 w h1 hm hT)
  have hfit := decode_fits s 1 h1
  have hmax := decode_max s 1
  have hts := Lib.tail_size s (1 + (Utf8.decode s 1).2)
  have HB := Lib.hid hb
  have hb0 := hb
  clear hsz hb
  have HC := Lib.hid hc
  have HT := Lib.hid hT
  clear he hT hb0 hc hmax hts hfit
  have CN2 : Hid (∀ e w', NrPost s 1 w e w' → Below w.heap.size w w' ∧ e = .returned (.tuple #[.int .i32 120, .string (s.extract (1 + (Utf8.decode s 1).2) s.size), .nilIface])) := Lib.hid fun e w' h => by
    obtain ⟨hb1, hr⟩ := h
    rw [if_neg (by rw [HB.out]; exact Bool.false_ne_true), HC.out] at hr
    exact ⟨hb1, hr⟩
  clear HC HB
  generalize 1 + (Utf8.decode s 1).2 = k0 at *
  have hx : hexE s k0 = (0, 0, 4) := by unfold hexE; rw [if_neg (by omega), if_neg (by rw [hb2]; simp), if_neg h123, if_pos hk2]
  rw [hx]
  have hz := Lib.tail_size s k0
  have hem2 := toList_full (s := s.extract k0 s.size) (by omega)
  have hmax := decode_max s k0
  have hfit2 := decode_fits s k0 hk
  have CX : Hid (∀ w1, Below w.heap.size w w1 → Calls Tryd.prog 77 #[.string (s.extract k0 s.size)] w1 fun e w' => e = .returned (.tuple #[.int .i32 ((Utf8.decode s k0).1 : Nat), .string (s.extract (k0 + (Utf8.decode s k0).2) s.size), .nilIface]) ∧ Below w1.heap.size w1 w') := Lib.hid fun w1 h => (next_c s k0 w1 hk hm (Utf8Tabs_below HT.out h)).mono fun e w' hr => nr_good hb2 hr
  have CU1 := Lib.hid fun w1 => unhex_c (Utf8.decode s k0).1 w1 hmax
  clear hb2 hk hmax
  have h123b : (((Utf8.decode s k0).1 : Int) == 123) = false := by rw [beq_eq_false_iff_ne]; omega
  have hxl := hexv_lt (Utf8.decode s k0).1
  clear h123
  generalize hexv (Utf8.decode s k0).1 = x at *
  generalize (Utf8.decode s k0).1 = c1 at *
  generalize k0 + (Utf8.decode s k0).2 = k1 at *
  have hz2 := Lib.tail_size s k1
  have CE : Hid (∀ w1, Below w.heap.size w w1 → Calls Tryd.prog 77 #[.string (s.extract k1 s.size)] w1 fun e w' => e = .returned (.tuple #[.int .i32 65533, .string (s.extract k1 s.size), .nilIface]) ∧ Below w1.heap.size w1 w') := Lib.hid fun w1 h => next_end _ w1 (by omega) (Utf8Tabs_below HT.out h)
  have CU2 : Hid (∀ w1, Calls Tryd.prog 79 #[.int .i32 65533] w1 fun e w' => e = .returned (.int .i32 (-1)) ∧ w1 = w') := Lib.hid fun w1 => unhex_c 65533 w1 (by omega)
  have htl : (s.extract k1 s.size).size ≤ s.size := by omega
  clear hx hz hz2 hk2 hfit2
  by_cases hx0 : x < 0
  all_goals
    go_enter Tryd.func64, Tryd.ntmps64
    go_wp2_with fail
    go_step3
    go_wp2_with (go_at_call 77; refine CN.out.mono ?_; rintro e w1 hr; obtain ⟨hb1, rfl⟩ := CN2.out _ _ hr)
    have HB1 := Lib.hid hb1
    clear hb1 hr
    go_step3
    go_wp2_with fail
    refine (CX.out _ HB1.out).mono ?_
    rintro e w2 ⟨rfl, hb2⟩
    have HB2 := Lib.hid (HB1.out.trans (hb2.mono HB1.out.size))
    clear hb2
    go_wp2_with fail
    refine (CU1.out _).mono ?_
    rintro e w3 ⟨rfl, rfl⟩
    go_wp2_with fail
    refine (CE.out _ HB2.out).mono ?_
    rintro e w3 ⟨rfl, hb3⟩
    have HB3 := Lib.hid (HB2.out.trans (hb3.mono HB2.out.size))
    clear hb3
    go_upto_region 66 with (go_at_call 79; refine (CU2.out _).mono ?_; rintro e w4 ⟨rfl, rfl⟩)
    generalize s.extract k1 s.size = t at *
    have hw1 : IntKind.i64.wrap ((s.size : Int) - (t.size : Int)) = (s.size : Int) - (t.size : Int) := by apply IntWalk.i64_in; omega
    have hw2 : 0 ≤ (s.size : Int) - (t.size : Int) := by omega
    have hw3 : (s.size : Int) - (t.size : Int) ≤ (s.size : Int) := by omega
    go_region_held3 (fun _ => True) (first | trivial | go_keep) (fail)
    go_wp2
    try rw [Exit.noGoto_ret]
    go_ret3
    exact ⟨(HB3.out.alloc HB3.out.size _).drew, _, rfl, _, _, rfl, by simp [msg], by simp; rfl⟩
set_option maxRecDepth 100000 in
set_option maxHeartbeats 4000000 in
theorem pe_x1b (s : ByteArray) (p : Value) (w : World) (h1 : 1 < s.size) (hm : s.size ≤ 1000) (hT : U8 w) (hb : bad s 1 = false) (hc : (Utf8.decode s 1).1 = 120) (hk : 1 + (Utf8.decode s 1).2 < s.size) (hb2 : bad s (1 + (Utf8.decode s 1).2) = false) (h123 : (Utf8.decode s (1 + (Utf8.decode s 1).2)).1 ≠ 123) (hk2 : 1 + (Utf8.decode s 1).2 + (Utf8.decode s (1 + (Utf8.decode s 1).2)).2 < s.size) (hb3 : bad s (1 + (Utf8.decode s 1).2 + (Utf8.decode s (1 + (Utf8.decode s 1).2)).2) = true) :
    Calls Tryd.prog 64 #[p, .string s] w (EscPost (esc s) s w) := by
  have he : esc s = hexE s (1 + (Utf8.decode s 1).2) := by
    unfold esc escC
    rw [if_neg (by omega), if_neg (by rw [hb]; simp), hc, if_neg (by rintro (h | h); exact absurd h (by decide); exact absurd h.2.1 (by decide)), if_pos rfl]
  rw [he]
  have hsz : (s.extract 1 s.size).size = s.size - 1 := by rw [Lib.tail_size]
  have hem := toList_full (s := s.extract 1 s.size) (by omega)
  have CN := Lib.hid (next_c s 1 w h1 hm hT)
  have hfit := decode_fits s 1 h1
  have hmax := decode_max s 1
  have hts := Lib.tail_size s (1 + (Utf8.decode s 1).2)
  have HB := Lib.hid hb
  have hb0 := hb
  clear hsz hb
  have HC := Lib.hid hc
  have HT := Lib.hid hT
  clear he hT hb0 hc hmax hts hfit
  have CN2 : Hid (∀ e w', NrPost s 1 w e w' → Below w.heap.size w w' ∧ e = .returned (.tuple #[.int .i32 120, .string (s.extract (1 + (Utf8.decode s 1).2) s.size), .nilIface])) := Lib.hid fun e w' h => by
    obtain ⟨hb1, hr⟩ := h
    rw [if_neg (by rw [HB.out]; exact Bool.false_ne_true), HC.out] at hr
    exact ⟨hb1, hr⟩
  clear HC HB
  generalize 1 + (Utf8.decode s 1).2 = k0 at *
  have hx : hexE s k0 = (0, 0, 9) := by unfold hexE; rw [if_neg (by omega), if_neg (by rw [hb2]; simp), if_neg h123, if_neg (by omega), if_pos hb3]
  rw [hx]
  have hz := Lib.tail_size s k0
  have hem2 := toList_full (s := s.extract k0 s.size) (by omega)
  have hmax := decode_max s k0
  have hfit2 := decode_fits s k0 hk
  have CX : Hid (∀ w1, Below w.heap.size w w1 → Calls Tryd.prog 77 #[.string (s.extract k0 s.size)] w1 fun e w' => e = .returned (.tuple #[.int .i32 ((Utf8.decode s k0).1 : Nat), .string (s.extract (k0 + (Utf8.decode s k0).2) s.size), .nilIface]) ∧ Below w1.heap.size w1 w') := Lib.hid fun w1 h => (next_c s k0 w1 hk hm (Utf8Tabs_below HT.out h)).mono fun e w' hr => nr_good hb2 hr
  have CU1 := Lib.hid fun w1 => unhex_c (Utf8.decode s k0).1 w1 hmax
  clear hb2 hk hmax
  have h123b : (((Utf8.decode s k0).1 : Int) == 123) = false := by rw [beq_eq_false_iff_ne]; omega
  have hxl := hexv_lt (Utf8.decode s k0).1
  clear h123
  generalize hexv (Utf8.decode s k0).1 = x at *
  generalize (Utf8.decode s k0).1 = c1 at *
  generalize k0 + (Utf8.decode s k0).2 = k1 at *
  have CE : Hid (∀ w1, Below w.heap.size w w1 → Calls Tryd.prog 77 #[.string (s.extract k1 s.size)] w1 (NrPost s k1 w1)) := Lib.hid fun w1 h => next_c s k1 w1 hk2 hm (Utf8Tabs_below HT.out h)
  have HBB := Lib.hid hb3
  clear hx hz hk2 hfit2 hb3
  go_enter Tryd.func64, Tryd.ntmps64
  go_wp2_with fail
  go_step3
  go_wp2_with (go_at_call 77; refine CN.out.mono ?_; rintro e w1 hr; obtain ⟨hb1, rfl⟩ := CN2.out _ _ hr)
  have HB1 := Lib.hid hb1
  clear hb1 hr
  go_step3
  go_wp2_with fail
  refine (CX.out _ HB1.out).mono ?_
  rintro e w2 ⟨rfl, hb2⟩
  have HB2 := Lib.hid (HB1.out.trans (hb2.mono HB1.out.size))
  clear hb2
  go_wp2_with fail
  refine (CU1.out _).mono ?_
  rintro e w3 ⟨rfl, rfl⟩
  go_wp2_with fail
  refine (CE.out _ HB2.out).mono ?_
  rintro e w3 hr
  obtain ⟨g, ex, rfl, hb3, c0, c1⟩ := nr_bad HBB.out hr
  have HB3 := Lib.hid (HB2.out.trans (hb3.mono HB2.out.size))
  clear hb3 hr
  go_wp2_with fail
  try rw [Exit.noGoto_ret]
  go_ret3
  exact ⟨HB3.out, _, rfl, g, ex, rfl, c0, c1⟩
set_option maxRecDepth 100000 in
set_option maxHeartbeats 4000000 in
theorem pe_x2 (s : ByteArray) (p : Value) (w : World) (h1 : 1 < s.size) (hm : s.size ≤ 1000) (hT : U8 w) (hb : bad s 1 = false) (hc : (Utf8.decode s 1).1 = 120) (hk : 1 + (Utf8.decode s 1).2 < s.size) (hb2 : bad s (1 + (Utf8.decode s 1).2) = false) (h123 : (Utf8.decode s (1 + (Utf8.decode s 1).2)).1 ≠ 123) (hk2 : 1 + (Utf8.decode s 1).2 + (Utf8.decode s (1 + (Utf8.decode s 1).2)).2 < s.size) (hb3 : bad s (1 + (Utf8.decode s 1).2 + (Utf8.decode s (1 + (Utf8.decode s 1).2)).2) = false) :
    Calls Tryd.prog 64 #[p, .string s] w (EscPost (esc s) s w) := by
  have he : esc s = hexE s (1 + (Utf8.decode s 1).2) := by
    unfold esc escC
    rw [if_neg (by omega), if_neg (by rw [hb]; simp), hc, if_neg (by rintro (h | h); exact absurd h (by decide); exact absurd h.2.1 (by decide)), if_pos rfl]
  rw [he]
  have hsz : (s.extract 1 s.size).size = s.size - 1 := by rw [Lib.tail_size]
  have hem := toList_full (s := s.extract 1 s.size) (by omega)
  have CN := Lib.hid (next_c s 1 w h1 hm hT)
  have hfit := decode_fits s 1 h1
  have hmax := decode_max s 1
  have hts := Lib.tail_size s (1 + (Utf8.decode s 1).2)
  have HB := Lib.hid hb
  have hb0 := hb
  clear hsz hb
  have HC := Lib.hid hc
  have HT := Lib.hid hT
  clear he hT hb0 hc hmax hts hfit
  have CN2 : Hid (∀ e w', NrPost s 1 w e w' → Below w.heap.size w w' ∧ e = .returned (.tuple #[.int .i32 120, .string (s.extract (1 + (Utf8.decode s 1).2) s.size), .nilIface])) := Lib.hid fun e w' h => by
    obtain ⟨hb1, hr⟩ := h
    rw [if_neg (by rw [HB.out]; exact Bool.false_ne_true), HC.out] at hr
    exact ⟨hb1, hr⟩
  clear HC HB
  generalize 1 + (Utf8.decode s 1).2 = k0 at *
  have hx : hexE s k0 = if hexv (Utf8.decode s k0).1 < 0 ∨ hexv (Utf8.decode s (k0 + (Utf8.decode s k0).2)).1 < 0 then (0, 0, 4) else (16 * hexv (Utf8.decode s k0).1 + hexv (Utf8.decode s (k0 + (Utf8.decode s k0).2)).1, k0 + (Utf8.decode s k0).2 + (Utf8.decode s (k0 + (Utf8.decode s k0).2)).2, 0) := by unfold hexE; rw [if_neg (by omega), if_neg (by rw [hb2]; simp), if_neg h123, if_neg (by omega), if_neg (by rw [hb3]; simp)]
  rw [hx]
  have hmax2 := decode_max s (k0 + (Utf8.decode s k0).2)
  have CE : Hid (∀ w1, Below w.heap.size w w1 → Calls Tryd.prog 77 #[.string (s.extract (k0 + (Utf8.decode s k0).2) s.size)] w1 fun e w' => e = .returned (.tuple #[.int .i32 ((Utf8.decode s (k0 + (Utf8.decode s k0).2)).1 : Nat), .string (s.extract (k0 + (Utf8.decode s k0).2 + (Utf8.decode s (k0 + (Utf8.decode s k0).2)).2) s.size), .nilIface]) ∧ Below w1.heap.size w1 w') := Lib.hid fun w1 h => (next_c s _ w1 hk2 hm (Utf8Tabs_below HT.out h)).mono fun e w' hr => nr_good hb3 hr
  have CU2 := Lib.hid fun w1 => unhex_c (Utf8.decode s (k0 + (Utf8.decode s k0).2)).1 w1 hmax2
  have hyl := hexv_lt (Utf8.decode s (k0 + (Utf8.decode s k0).2)).1
  have hz2 := Lib.tail_size s (k0 + (Utf8.decode s k0).2 + (Utf8.decode s (k0 + (Utf8.decode s k0).2)).2)
  have htl : (s.extract (k0 + (Utf8.decode s k0).2 + (Utf8.decode s (k0 + (Utf8.decode s k0).2)).2) s.size).size ≤ s.size := by omega
  clear hx hb3 hk2 hmax2 hz2
  generalize hexv (Utf8.decode s (k0 + (Utf8.decode s k0).2)).1 = y at *
  generalize (Utf8.decode s (k0 + (Utf8.decode s k0).2)).1 = c2 at *
  generalize k0 + (Utf8.decode s k0).2 + (Utf8.decode s (k0 + (Utf8.decode s k0).2)).2 = k2 at *
  have hz := Lib.tail_size s k0
  have hem2 := toList_full (s := s.extract k0 s.size) (by omega)
  have hmax := decode_max s k0
  have hfit2 := decode_fits s k0 hk
  have CX : Hid (∀ w1, Below w.heap.size w w1 → Calls Tryd.prog 77 #[.string (s.extract k0 s.size)] w1 fun e w' => e = .returned (.tuple #[.int .i32 ((Utf8.decode s k0).1 : Nat), .string (s.extract (k0 + (Utf8.decode s k0).2) s.size), .nilIface]) ∧ Below w1.heap.size w1 w') := Lib.hid fun w1 h => (next_c s k0 w1 hk hm (Utf8Tabs_below HT.out h)).mono fun e w' hr => nr_good hb2 hr
  have CU1 := Lib.hid fun w1 => unhex_c (Utf8.decode s k0).1 w1 hmax
  clear hb2 hk hmax
  have h123b : (((Utf8.decode s k0).1 : Int) == 123) = false := by rw [beq_eq_false_iff_ne]; omega
  have hxl := hexv_lt (Utf8.decode s k0).1
  clear h123
  generalize hexv (Utf8.decode s k0).1 = x at *
  generalize (Utf8.decode s k0).1 = c1 at *
  generalize k0 + (Utf8.decode s k0).2 = k1 at *
  clear hz hfit2
  by_cases hxy : x < 0 ∨ y < 0
  · rw [if_pos hxy]
    rcases hxy with hx0 | hy0
    · skip
      go_enter Tryd.func64, Tryd.ntmps64
      go_wp2_with fail
      go_step3
      go_wp2_with (go_at_call 77; refine CN.out.mono ?_; rintro e w1 hr; obtain ⟨hb1, rfl⟩ := CN2.out _ _ hr)
      have HB1 := Lib.hid hb1
      clear hb1 hr
      go_step3
      go_wp2_with fail
      refine (CX.out _ HB1.out).mono ?_
      rintro e w2 ⟨rfl, hb2⟩
      have HB2 := Lib.hid (HB1.out.trans (hb2.mono HB1.out.size))
      clear hb2
      go_wp2_with fail
      refine (CU1.out _).mono ?_
      rintro e w3 ⟨rfl, rfl⟩
      go_wp2_with fail
      refine (CE.out _ HB2.out).mono ?_
      rintro e w3 ⟨rfl, hb3⟩
      have HB3 := Lib.hid (HB2.out.trans (hb3.mono HB2.out.size))
      clear hb3
      go_upto_region 66 with (go_at_call 79; refine (CU2.out _).mono ?_; rintro e w4 ⟨rfl, rfl⟩)
      generalize s.extract k2 s.size = t at *
      have hw1 : IntKind.i64.wrap ((s.size : Int) - (t.size : Int)) = (s.size : Int) - (t.size : Int) := by apply IntWalk.i64_in; omega
      have hw2 : 0 ≤ (s.size : Int) - (t.size : Int) := by omega
      have hw3 : (s.size : Int) - (t.size : Int) ≤ (s.size : Int) := by omega
      go_region_held3 (fun _ => True) (first | trivial | go_keep) (fail)
      go_wp2
      try rw [Exit.noGoto_ret]
      go_ret3
      exact ⟨(HB3.out.alloc HB3.out.size _).drew, _, rfl, _, _, rfl, by simp [msg], by simp; rfl⟩
    · by_cases hx0 : x < 0
      all_goals
        go_enter Tryd.func64, Tryd.ntmps64
        go_wp2_with fail
        go_step3
        go_wp2_with (go_at_call 77; refine CN.out.mono ?_; rintro e w1 hr; obtain ⟨hb1, rfl⟩ := CN2.out _ _ hr)
        have HB1 := Lib.hid hb1
        clear hb1 hr
        go_step3
        go_wp2_with fail
        refine (CX.out _ HB1.out).mono ?_
        rintro e w2 ⟨rfl, hb2⟩
        have HB2 := Lib.hid (HB1.out.trans (hb2.mono HB1.out.size))
        clear hb2
        go_wp2_with fail
        refine (CU1.out _).mono ?_
        rintro e w3 ⟨rfl, rfl⟩
        go_wp2_with fail
        refine (CE.out _ HB2.out).mono ?_
        rintro e w3 ⟨rfl, hb3⟩
        have HB3 := Lib.hid (HB2.out.trans (hb3.mono HB2.out.size))
        clear hb3
        go_upto_region 66 with (go_at_call 79; refine (CU2.out _).mono ?_; rintro e w4 ⟨rfl, rfl⟩)
        generalize s.extract k2 s.size = t at *
        have hw1 : IntKind.i64.wrap ((s.size : Int) - (t.size : Int)) = (s.size : Int) - (t.size : Int) := by apply IntWalk.i64_in; omega
        have hw2 : 0 ≤ (s.size : Int) - (t.size : Int) := by omega
        have hw3 : (s.size : Int) - (t.size : Int) ≤ (s.size : Int) := by omega
        go_region_held3 (fun _ => True) (first | trivial | go_keep) (fail)
        go_wp2
        try rw [Exit.noGoto_ret]
        go_ret3
        exact ⟨(HB3.out.alloc HB3.out.size _).drew, _, rfl, _, _, rfl, by simp [msg], by simp; rfl⟩
  · rw [if_neg hxy]
    have hx1 : ¬ x < 0 := by omega
    have hy1 : ¬ y < 0 := by omega
    clear hxy
    go_enter Tryd.func64, Tryd.ntmps64
    go_wp2_with fail
    go_step3
    go_wp2_with (go_at_call 77; refine CN.out.mono ?_; rintro e w1 hr; obtain ⟨hb1, rfl⟩ := CN2.out _ _ hr)
    have HB1 := Lib.hid hb1
    clear hb1 hr
    go_step3
    go_wp2_with fail
    refine (CX.out _ HB1.out).mono ?_
    rintro e w2 ⟨rfl, hb2⟩
    have HB2 := Lib.hid (HB1.out.trans (hb2.mono HB1.out.size))
    clear hb2
    go_wp2_with fail
    refine (CU1.out _).mono ?_
    rintro e w3 ⟨rfl, rfl⟩
    go_wp2_with fail
    refine (CE.out _ HB2.out).mono ?_
    rintro e w3 ⟨rfl, hb3⟩
    have HB3 := Lib.hid (HB2.out.trans (hb3.mono HB2.out.size))
    clear hb3
    go_wp2_with (go_at_call 79; refine (CU2.out _).mono ?_; rintro e w4 ⟨rfl, rfl⟩)
    try rw [Exit.noGoto_ret]
    go_ret3
    refine ⟨HB3.out, ?_⟩
    rw [if_pos rfl]
    rw [Int.mul_comm]
    rfl
end Go.Proofs.YtholpemmakdglaaDoor.Esc
