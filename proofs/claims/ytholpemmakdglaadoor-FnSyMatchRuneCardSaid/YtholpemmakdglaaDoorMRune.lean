/- MatchRune and MatchRunePos of the thin package, over an instruction of characters. -/
import Derived.Test.YtholpemmakdglaaDoorFitB
import Derived.Deep.RegionWith
import Derived.Laws.MakeOwn
namespace Go.Proofs.YtholpemmakdglaaDoor.Mem
open Go.RowKit Fold
set_option linter.unusedVariables false
theorem foldV_more {B B' : Nat} {w : World} (h : FoldV B w) (hB : B ≤ B') : FoldV B' w := by
  obtain ⟨ha, ⟨R, o, c, hR, ho, ht⟩, ⟨R2, o2, c2, hR2, ho2, ht2⟩, b1, b2, b3⟩ := h
  exact ⟨ha, ⟨R, o, c, by omega, ho, ht⟩, ⟨R2, o2, c2, by omega, ho2, ht2⟩, by omega, by omega, by omega⟩
/-- What the statement hands to the package: one character with the mark, or ranges without it. -/
def Given (zs : List Int) (arg : Int) : Prop := (∃ r p, zs = [r] ∧ Per r p ∧ 0 ≤ r ∧ r ≤ 1114111 ∧ arg = 1) ∨ (clsF (-1) zs = true ∧ arg = 0)
theorem Given.runes {zs : List Int} {arg : Int} (h : Given zs arg) : Runes zs arg := by
  rcases h with ⟨r, p, h1, h2, _, _, h3⟩ | ⟨h, _⟩
  · exact Or.inl ⟨r, p, h1, h2, Or.inr h3⟩
  · exact Or.inr h
theorem Given.arg {zs : List Int} {arg : Int} (h : Given zs arg) : arg = 0 ∨ arg = 1 := by
  rcases h with ⟨_, _, _, _, _, _, h⟩ | ⟨_, h⟩
  · exact Or.inr h
  · exact Or.inl h
section
variable (A : Option Addr) (cap : Nat) (zs : List Int) (arg : Int) (w : World) {B : Nat}
theorem fit_any (PA : Option Addr) (pn pc : Nat) (hpn : 0 < pn) (hm : zs.length ≤ 1000000) (hg : Given zs arg) (hz : IntsAt w B .i32 A zs) (hB : B ≤ w.heap.size) :
    Calls Tryd.prog 31 #[.agg #[.int .i64 7, .int .i64 0, .int .i64 arg, .slice A zs.length cap], .agg #[.slice PA pn pc, .int .i64 0, .int .i64 0]] w fun e w' => e = .returned (.bool true) ∧ Below w.heap.size w w' := by
  rcases hg with ⟨r, p, rfl, _, h0, h1, rfl⟩ | ⟨h, rfl⟩
  · exact fit_one A cap w PA pn pc hpn r h0 h1 hz hB
  · refine fit_cls A cap zs w PA pn pc hpn (by omega) ?_ h hz hB
    have := clsF_even zs _ h
    omega
theorem mk1 : ∃ C, ∀ w : World, (Instr.makeSlice 52 (.int .i64 1) (.int .i64 1)).run Tryd.prog w = .ok (.slice (some ⟨w.heap.size, 0, none⟩) 1 1) (w.alloc (.cells C 31)) := by
  have hi : (Tryd.prog.info? 31).map (fun i => (i.zero, i.size, i.bytes)) = some (some (.agg #[.int .i64 0, .int .i64 0, .int .i64 0, .slice none 0 0]), 4, 48) := by kernel_rfl
  obtain ⟨i0, hi0, hz0, hz1, hz2⟩ := info_parts hi
  exact ⟨_, fun w => run_make w 52 31 i0 _ (by kernel_rfl) hi0 hz0 .i64 .i64 1 1 (by omega) (by omega) (by rw [hz2]; omega) (by omega)⟩
set_option maxRecDepth 100000 in
set_option maxHeartbeats 4000000 in
theorem syMR_any (c : Int) (hm : zs.length ≤ 1000000) (hg : Given zs arg) (hF : FoldV B w) (hz : IntsAt w B .i32 A zs) (hB : B ≤ w.heap.size) :
    Calls Tryd.prog 15 #[.agg #[.int .i64 7, .int .i64 0, .int .i64 arg, .slice A zs.length cap], .int .i32 c] w fun e w' => e = .returned (.tuple #[.bool (posI zs arg c != -1), .bool true]) ∧ Below w.heap.size w w' := by
  have HG := Lib.hid hg; clear hg
  have HZ := Lib.hid hz; clear hz
  have HF := Lib.hid hF; clear hF
  obtain ⟨C, hmk⟩ := mk1
  go_enter Tryd.func15, Tryd.ntmps15
  go_wp2_with fail
  have hbw : Below w.heap.size w (w.alloc (.cells #[.int .i64 7, .int .i64 0, .int .i64 arg, .slice A zs.length cap] 31)) := ((Below.refl _ _).alloc (Nat.le_refl _) _)
  have c0 : (w.alloc (.cells #[.int .i64 7, .int .i64 0, .int .i64 arg, .slice A zs.length cap] 31)).cell? ⟨w.heap.size, 0, none⟩ = some (.int .i64 7) := by simp
  have c1 : (w.alloc (.cells #[.int .i64 7, .int .i64 0, .int .i64 arg, .slice A zs.length cap] 31)).cell? ⟨w.heap.size, 1, none⟩ = some (.int .i64 0) := by simp
  have c2 : (w.alloc (.cells #[.int .i64 7, .int .i64 0, .int .i64 arg, .slice A zs.length cap] 31)).cell? ⟨w.heap.size, 2, none⟩ = some (.int .i64 arg) := by simp
  have c3 : (w.alloc (.cells #[.int .i64 7, .int .i64 0, .int .i64 arg, .slice A zs.length cap] 31)).cell? ⟨w.heap.size, 3, none⟩ = some (.slice A zs.length cap) := by simp
  have hs : (w.alloc (.cells #[.int .i64 7, .int .i64 0, .int .i64 arg, .slice A zs.length cap] 31)).heap.size = w.heap.size + 1 := by simp
  generalize (w.alloc (.cells #[.int .i64 7, .int .i64 0, .int .i64 arg, .slice A zs.length cap] 31)) = W at *
  have HB := Lib.hid hbw; clear hbw
  have H2 := Lib.hid (fun w2 (h : Below W.heap.size W w2) => (⟨HZ.out.below (HB.out.trans (h.mono (by omega))) hB, by have := h.size; omega⟩ : IntsAt w2 B .i32 A zs ∧ B ≤ w2.heap.size))
  go_region_with (go_at_call 31; refine (Calls.mono (fit_any A cap zs arg _ (B := B) _ _ _ (by simp) hm HG.out (H2.out _ (Below.alloc (below_drewN (Below.refl _ W) 1) (by simp) _)).1 (H2.out _ (Below.alloc (below_drewN (Below.refl _ W) 1) (by simp) _)).2) ?_); rintro e w1 ⟨rfl, hb⟩)
  all_goals
    have hb1 : Below W.heap.size W w1 := Below.trans (Below.alloc (below_drewN (Below.refl _ W) 1) (Nat.le_refl _) (.cells C 31)) (Below.mono hb (by simp))
    clear hb
    have k0 := (hb1.cell (p := ⟨w.heap.size, 0, none⟩) (by show w.heap.size < W.heap.size; omega)).trans c0
    have k1 := (hb1.cell (p := ⟨w.heap.size, 1, none⟩) (by show w.heap.size < W.heap.size; omega)).trans c1
    have k2 := (hb1.cell (p := ⟨w.heap.size, 2, none⟩) (by show w.heap.size < W.heap.size; omega)).trans c2
    have k3 := (hb1.cell (p := ⟨w.heap.size, 3, none⟩) (by show w.heap.size < W.heap.size; omega)).trans c3
    have HB1 := Lib.hid (HB.out.trans (hb1.mono (by omega))); clear hb1
    go_wp2_with (first
      | (go_at_call 32; refine (Calls.mono (instOf_any A cap zs _ (B := B) arg HG.out.arg hm (HZ.out.below HB1.out hB) (by have := HB1.out.size; omega)) ?_); rintro e w2 ⟨A', c', rfl, hz2, hb2⟩; have HB2 := Lib.hid (HB1.out.trans (hb2.mono HB1.out.size)); clear hb2; have HF2 := Lib.hid ((foldV_more (HF.out.below HB2.out hB) (Nat.le_trans hB HB2.out.size)).below (Below.alloc (Below.refl w2.heap.size w2) (Nat.le_refl _) (.cells #[.int .u8 7, .int .u32 0, .int .u32 arg, .slice A' zs.length c'] 58)) (Nat.le_refl _)); have HZ2 := Lib.hid (hz2.below (Below.alloc (Below.refl w2.heap.size w2) (Nat.le_refl _) (.cells #[.int .u8 7, .int .u32 0, .int .u32 arg, .slice A' zs.length c'] 58)) (Nat.le_refl _)); clear hz2)
      | (go_at_call 33; refine (Calls.mono (mr_any _ 0 A' c' arg c _ zs (by omega) HF2.out HG.out.runes (by simp) (by simp) HZ2.out) ?_); rintro e w3 ⟨rfl, q, rfl⟩))
    go_ret2
    exact ⟨rfl, below_drewN (Below.alloc HB2.out HB2.out.size _) _⟩
set_option maxRecDepth 100000 in
set_option maxHeartbeats 4000000 in
theorem syMRP_any (c : Int) (hm : zs.length ≤ 1000000) (hg : Given zs arg) (hF : FoldV B w) (hz : IntsAt w B .i32 A zs) (hB : B ≤ w.heap.size) :
    Calls Tryd.prog 16 #[.agg #[.int .i64 7, .int .i64 0, .int .i64 arg, .slice A zs.length cap], .int .i32 c] w fun e w' => e = .returned (.tuple #[.int .i64 (posI zs arg c), .bool true]) ∧ Below w.heap.size w w' := by
  have HG := Lib.hid hg; clear hg
  have HZ := Lib.hid hz; clear hz
  have HF := Lib.hid hF; clear hF
  obtain ⟨C, hmk⟩ := mk1
  go_enter Tryd.func16, Tryd.ntmps16
  go_wp2_with fail
  have hbw : Below w.heap.size w (w.alloc (.cells #[.int .i64 7, .int .i64 0, .int .i64 arg, .slice A zs.length cap] 31)) := ((Below.refl _ _).alloc (Nat.le_refl _) _)
  have c0 : (w.alloc (.cells #[.int .i64 7, .int .i64 0, .int .i64 arg, .slice A zs.length cap] 31)).cell? ⟨w.heap.size, 0, none⟩ = some (.int .i64 7) := by simp
  have c1 : (w.alloc (.cells #[.int .i64 7, .int .i64 0, .int .i64 arg, .slice A zs.length cap] 31)).cell? ⟨w.heap.size, 1, none⟩ = some (.int .i64 0) := by simp
  have c2 : (w.alloc (.cells #[.int .i64 7, .int .i64 0, .int .i64 arg, .slice A zs.length cap] 31)).cell? ⟨w.heap.size, 2, none⟩ = some (.int .i64 arg) := by simp
  have c3 : (w.alloc (.cells #[.int .i64 7, .int .i64 0, .int .i64 arg, .slice A zs.length cap] 31)).cell? ⟨w.heap.size, 3, none⟩ = some (.slice A zs.length cap) := by simp
  have hs : (w.alloc (.cells #[.int .i64 7, .int .i64 0, .int .i64 arg, .slice A zs.length cap] 31)).heap.size = w.heap.size + 1 := by simp
  generalize (w.alloc (.cells #[.int .i64 7, .int .i64 0, .int .i64 arg, .slice A zs.length cap] 31)) = W at *
  have HB := Lib.hid hbw; clear hbw
  have H2 := Lib.hid (fun w2 (h : Below W.heap.size W w2) => (⟨HZ.out.below (HB.out.trans (h.mono (by omega))) hB, by have := h.size; omega⟩ : IntsAt w2 B .i32 A zs ∧ B ≤ w2.heap.size))
  go_region_with (go_at_call 31; refine (Calls.mono (fit_any A cap zs arg _ (B := B) _ _ _ (by simp) hm HG.out (H2.out _ (Below.alloc (below_drewN (Below.refl _ W) 1) (by simp) _)).1 (H2.out _ (Below.alloc (below_drewN (Below.refl _ W) 1) (by simp) _)).2) ?_); rintro e w1 ⟨rfl, hb⟩)
  all_goals
    have hb1 : Below W.heap.size W w1 := Below.trans (Below.alloc (below_drewN (Below.refl _ W) 1) (Nat.le_refl _) (.cells C 31)) (Below.mono hb (by simp))
    clear hb
    have k0 := (hb1.cell (p := ⟨w.heap.size, 0, none⟩) (by show w.heap.size < W.heap.size; omega)).trans c0
    have k1 := (hb1.cell (p := ⟨w.heap.size, 1, none⟩) (by show w.heap.size < W.heap.size; omega)).trans c1
    have k2 := (hb1.cell (p := ⟨w.heap.size, 2, none⟩) (by show w.heap.size < W.heap.size; omega)).trans c2
    have k3 := (hb1.cell (p := ⟨w.heap.size, 3, none⟩) (by show w.heap.size < W.heap.size; omega)).trans c3
    have HB1 := Lib.hid (HB.out.trans (hb1.mono (by omega))); clear hb1
    go_wp2_with (first
      | (go_at_call 32; refine (Calls.mono (instOf_any A cap zs _ (B := B) arg HG.out.arg hm (HZ.out.below HB1.out hB) (by have := HB1.out.size; omega)) ?_); rintro e w2 ⟨A', c', rfl, hz2, hb2⟩; have HB2 := Lib.hid (HB1.out.trans (hb2.mono HB1.out.size)); clear hb2; have HF2 := Lib.hid ((foldV_more (HF.out.below HB2.out hB) (Nat.le_trans hB HB2.out.size)).below (Below.alloc (Below.refl w2.heap.size w2) (Nat.le_refl _) (.cells #[.int .u8 7, .int .u32 0, .int .u32 arg, .slice A' zs.length c'] 58)) (Nat.le_refl _)); have HZ2 := Lib.hid (hz2.below (Below.alloc (Below.refl w2.heap.size w2) (Nat.le_refl _) (.cells #[.int .u8 7, .int .u32 0, .int .u32 arg, .slice A' zs.length c'] 58)) (Nat.le_refl _)); clear hz2)
      | (go_at_call 34; refine (Calls.mono (mrp_any _ 0 A' c' arg c _ zs (by omega) HF2.out HG.out.runes (by simp) (by simp) HZ2.out) ?_); rintro e w3 ⟨rfl, q, rfl⟩))
    go_ret2
    exact ⟨rfl, below_drewN (Below.alloc HB2.out HB2.out.size _) _⟩
end
end Go.Proofs.YtholpemmakdglaaDoor.Mem
