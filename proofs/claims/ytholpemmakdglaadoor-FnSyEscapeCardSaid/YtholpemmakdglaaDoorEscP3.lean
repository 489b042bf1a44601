/- The package's reader of an escape: octal digits. -/
import Derived.Test.YtholpemmakdglaaDoorEscP
import Derived.StillTailTactics
import Derived.Deep.RegionHeld3
namespace Go.Proofs.YtholpemmakdglaaDoor.Esc
open Go.RowKit Go.Lib Tx
set_option linter.unusedVariables false
/-- What the first byte of a rest tells. -/
theorem oct_yes {s t : ByteArray} {k : Nat} (ht : t = s.extract k s.size) (h : octal s k = true) : t.toList.isEmpty = false ∧ ∃ h0 : 0 < t.size, 48 ≤ t[0].toNat ∧ t[0].toNat ≤ 55 ∧ t[0] = s.get! k := by
  obtain ⟨h1, h2, h3⟩ := (octal_iff s k).1 h
  subst ht
  have hz : (s.extract k s.size).size = s.size - k := Lib.tail_size s k
  have h0 : 0 < (s.extract k s.size).size := by omega
  refine ⟨toList_full (by omega), h0, ?_⟩
  rw [ext_head s k h0]
  exact ⟨h2, h3, rfl⟩
theorem oct_no {s t : ByteArray} {k : Nat} (ht : t = s.extract k s.size) (h : octal s k = false) : t.toList.isEmpty = true ∨ (t.toList.isEmpty = false ∧ ∃ h0 : 0 < t.size, t[0].toNat < 48) ∨ (t.toList.isEmpty = false ∧ ∃ h0 : 0 < t.size, 48 ≤ t[0].toNat ∧ 55 < t[0].toNat) := by
  subst ht
  have hz : (s.extract k s.size).size = s.size - k := Lib.tail_size s k
  by_cases h0 : 0 < (s.extract k s.size).size
  · have hf := toList_full (s := s.extract k s.size) (by omega)
    have hn : ¬ (k < s.size ∧ 48 ≤ (s.get! k).toNat ∧ (s.get! k).toNat ≤ 55) := fun h' => by rw [(octal_iff s k).2 h'] at h; cases h
    rcases Nat.lt_or_ge (s.get! k).toNat 48 with h1 | h1
    · exact Or.inr (Or.inl ⟨hf, h0, by rw [ext_head s k h0]; exact h1⟩)
    · exact Or.inr (Or.inr ⟨hf, h0, by rw [ext_head s k h0]; exact h1, by rw [ext_head s k h0]; omega⟩)
  · exact Or.inl (toList_empty (by omega))
set_option maxRecDepth 100000 in
set_option maxHeartbeats 8000000 in
theorem pe_octno (s : ByteArray) (p : Value) (w : World) (h1 : 1 < s.size) (hm : s.size ≤ 1000) (hT : U8 w) (hb : bad s 1 = false) (c : Nat) (hc : (Utf8.decode s 1).1 = c) (hcc : 49 ≤ c ∧ c ≤ 55) (ho : octal s (1 + (Utf8.decode s 1).2) = false) :
    Calls Tryd.prog 64 #[p, .string s] w (EscPost (esc s) s w) := by
  have he : esc s = (0, 0, 4) := by
    unfold esc escC
    rw [if_neg (by omega), if_neg (by rw [hb]; simp), hc, ho]
    have ha : alnum c = true := by simp [alnum]; omega
    rw [if_neg (by rintro (h | h); omega; exact absurd h.2.2 (by simp)), if_neg (by omega), if_neg (by omega), if_neg (by omega), if_neg (by omega), if_neg (by omega), if_neg (by omega), if_neg (by omega), if_neg (by rw [ha]; simp)]
  rw [he]
  have hsz : (s.extract 1 s.size).size = s.size - 1 := by rw [Lib.tail_size]
  have hem := toList_full (s := s.extract 1 s.size) (by omega)
  have CN := Lib.hid (next_c s 1 w h1 hm hT)
  have hfit := decode_fits s 1 h1
  have hmax := decode_max s 1
  have hts := Lib.tail_size s (1 + (Utf8.decode s 1).2)
  have HB := Lib.hid hb
  have hb0 := hb
  clear hsz hb
  have HC := Lib.hid hc
  clear he hT hb0 hc hmax
  have hon := oct_no rfl ho
  have htl : (s.extract (1 + (Utf8.decode s 1).2) s.size).size ≤ s.size := by omega
  clear hts ho
  have hcs : c = 49 ∨ c = 50 ∨ c = 51 ∨ c = 52 ∨ c = 53 ∨ c = 54 ∨ c = 55 := by omega
  clear hcc
  have CN2 : Hid (∀ e w', NrPost s 1 w e w' → Below w.heap.size w w' ∧ e = .returned (.tuple #[.int .i32 c, .string (s.extract (1 + (Utf8.decode s 1).2) s.size), .nilIface])) := Lib.hid fun e w' h => by
    obtain ⟨hb1, hr⟩ := h
    rw [if_neg (by rw [HB.out]; exact Bool.false_ne_true), HC.out] at hr
    exact ⟨hb1, hr⟩
  clear HC HB
  generalize s.extract (1 + (Utf8.decode s 1).2) s.size = t at *
  rcases hon with h1 | ⟨h1, h0, h2⟩ | ⟨h1, h0, h2, h3⟩
  all_goals rcases hcs with rfl | rfl | rfl | rfl | rfl | rfl | rfl
  all_goals
    go_enter Tryd.func64, Tryd.ntmps64
    go_wp2_with fail
    go_step3
    go_wp2_with (go_at_call 77; refine CN.out.mono ?_; rintro e w1 hr; obtain ⟨hb1, rfl⟩ := CN2.out _ _ hr)
    go_step3
    go_upto_region 66 with fail
    have hw1 : IntKind.i64.wrap ((s.size : Int) - (t.size : Int)) = (s.size : Int) - (t.size : Int) := by apply IntWalk.i64_in; omega
    have hw2 : 0 ≤ (s.size : Int) - (t.size : Int) := by omega
    have hw3 : (s.size : Int) - (t.size : Int) ≤ (s.size : Int) := by omega
    go_region_held3 (fun _ => True) (first | trivial | go_keep) (fail)
    go_wp2
    try rw [Exit.noGoto_ret]
    go_ret3
    exact ⟨(hb1.alloc hb1.size _).drew, _, rfl, _, _, rfl, by simp [msg], by simp; rfl⟩
end Go.Proofs.YtholpemmakdglaaDoor.Esc
