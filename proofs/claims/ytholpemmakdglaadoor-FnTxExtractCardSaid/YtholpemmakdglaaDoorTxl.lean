/- FnTxExtract answers true at every text. -/
import Derived.Test.YtholpemmakdglaaDoorTxr
namespace Go.Proofs.YtholpemmakdglaaDoor.Tx
open Go.RowKit Go.Lib Ext
set_option linter.unusedVariables false
/-- What a reader makes of a text behind a $. -/
def txR (s : ByteArray) : Option (ByteArray × Int × ByteArray) := if h : 0 < s.size then (if s[0].toNat = 123 then txF (s.extract 1 s.size) true else txF s false) else none
theorem txF_0 {s : ByteArray} (h : s.size = 0) : txF s false = none := by
  unfold txF
  rw [if_pos]
  rw [h]
  simp only [nEnd]
  rw [if_neg (by omega)]
set_option maxRecDepth 100000 in
set_option maxHeartbeats 1000000 in
theorem ext_0 (s : ByteArray) (w : World) (h0 : s.size = 0) :
    Calls Tryd.prog 46 #[.string s] w (ExtPost none w) := by
  have hem := toList_empty h0
  have H0 := Lib.hid h0
  clear h0
  go_enter Tryd.func46, Tryd.ntmps46
  go_wp2
  refine bodyPost_ret (v := .tuple #[.string ByteArray.empty, .int .i64 0, .string ByteArray.empty, .bool false]) (by simp [results, Tryd.results46, go_sem]; try rfl) rfl ⟨Below.refl _ _, ?_⟩
  exact ⟨_, _, _, rfl⟩
theorem ext_any (s : ByteArray) (w : World) (hT : UTabs w) (hm : s.size ≤ 2147483647) :
    Calls Tryd.prog 46 #[.string s] w (ExtPost (txR s) w) := by
  unfold txR
  by_cases h0 : 0 < s.size
  · rw [dif_pos h0]
    by_cases hb : s[0].toNat = 123
    · rw [if_pos hb]; exact ext_b s w hT hm h0 hb
    · rw [if_neg hb]; exact ext_n s w hT hm h0 hb
  · rw [dif_neg h0]; exact ext_0 s w (by omega)
theorem ref_any (s : ByteArray) (w : World) (hT : UTabs w) (hm : s.size ≤ 2147483647) :
    Calls Tryd.prog 11 #[.string s] w (ExtPost (txR s) w) := by
  unfold txR
  by_cases h0 : 0 < s.size
  · rw [dif_pos h0]
    by_cases hb : s[0].toNat = 123
    · rw [if_pos hb]; exact ref_b s w hT hm h0 hb
    · rw [if_neg hb]; exact ref_n s w hT hm h0 hb
  · rw [dif_neg h0, ← txF_0 (by omega : s.size = 0)]; exact ref_0 s w hT hm (by omega)
set_option maxRecDepth 100000 in
set_option maxHeartbeats 1000000 in
theorem zz_any (s : ByteArray) (w : World) (hT : UTabs w) (hm : s.size ≤ 2147483647) :
    Calls Tryd.prog 25 #[.string s] w (ExtPost (txR s) w) := by
  have C := Lib.hid (ext_any s w hT hm)
  clear hT
  generalize txR s = r at *
  rcases r with _ | ⟨nm, n, rs⟩
  · go_enter Tryd.func25, Tryd.ntmps25
    go_wp2_with (go_at_call 46; refine C.out.mono ?_; rintro e w1 ⟨hb, nm, n, rs, rfl⟩)
    exact bodyPost_ret (v := .tuple #[.string nm, .int .i64 n, .string rs, .bool false]) (by simp [results, Tryd.results25, go_sem]) rfl ⟨hb, _, _, _, rfl⟩
  · go_enter Tryd.func25, Tryd.ntmps25
    go_wp2_with (go_at_call 46; refine C.out.mono ?_; rintro e w1 ⟨hb, rfl⟩)
    exact bodyPost_ret (v := .tuple #[.string nm, .int .i64 n, .string rs, .bool true]) (by simp [results, Tryd.results25, go_sem]) rfl ⟨hb, rfl⟩
set_option maxRecDepth 100000 in
set_option maxHeartbeats 1000000 in
theorem rx_any (s : ByteArray) (w : World) (hT : UTabs w) (hm : s.size ≤ 2147483647) :
    Calls Tryd.prog 10 #[.string s] w (ExtPost (txR s) w) := by
  have C := Lib.hid (zz_any s w hT hm)
  clear hT
  generalize txR s = r at *
  rcases r with _ | ⟨nm, n, rs⟩
  · go_enter Tryd.func10, Tryd.ntmps10
    go_wp2_with (go_at_call 25; refine C.out.mono ?_; rintro e w1 ⟨hb, nm, n, rs, rfl⟩)
    exact bodyPost_ret (v := .tuple #[.string nm, .int .i64 n, .string rs, .bool false]) (by simp [results, Tryd.results10, go_sem]) rfl ⟨hb, _, _, _, rfl⟩
  · go_enter Tryd.func10, Tryd.ntmps10
    go_wp2_with (go_at_call 25; refine C.out.mono ?_; rintro e w1 ⟨hb, rfl⟩)
    exact bodyPost_ret (v := .tuple #[.string nm, .int .i64 n, .string rs, .bool true]) (by simp [results, Tryd.results10, go_sem]) rfl ⟨hb, rfl⟩
set_option maxRecDepth 100000 in
set_option maxHeartbeats 1000000 in
theorem txl_any (s : ByteArray) (w : World) (hT : UTabs w) :
    Calls Tryd.prog 4 #[.string s] w fun e w' => e = .returned (.bool true) ∧ Below w.heap.size w w' := by
  by_cases hm : s.size ≤ 2147483647
  · have C1 := Lib.hid (rx_any s w hT hm)
    have C2 : Hid (∀ w1, Below w.heap.size w w1 → Calls Tryd.prog 11 #[.string s] w1 (ExtPost (txR s) w1)) := Lib.hid fun w1 hb => ref_any s w1 (hT.below hb) hm
    clear hT
    generalize txR s = r at *
    rcases r with _ | ⟨nm, n, rs⟩
    · go_enter Tryd.func4, Tryd.ntmps4
      go_wp2_with (first
        | (go_at_call 10; refine C1.out.mono ?_; rintro e w1 ⟨hb1, nm1, n1, rs1, rfl⟩)
        | (go_at_call 11; refine (C2.out _ hb1).mono ?_; rintro e w2 ⟨hb2, nm2, n2, rs2, rfl⟩))
      go_ret
      exact ⟨rfl, hb1.trans (hb2.mono hb1.size)⟩
    · go_enter Tryd.func4, Tryd.ntmps4
      go_wp2_with (first
        | (go_at_call 10; refine C1.out.mono ?_; rintro e w1 ⟨hb1, rfl⟩)
        | (go_at_call 11; refine (C2.out _ hb1).mono ?_; rintro e w2 ⟨hb2, rfl⟩))
      go_ret
      exact ⟨rfl, hb1.trans (hb2.mono hb1.size)⟩
  · have hm' : 2147483647 < s.size := by omega
    clear hm hT
    go_enter Tryd.func4, Tryd.ntmps4
    go_wp2
    go_ret
    exact ⟨rfl, Below.refl _ _⟩
end Go.Proofs.YtholpemmakdglaaDoor.Tx
