/- The closure of the merging takes the next range and lays it behind the others. -/
import Derived.Test.YtholpemmakdglaaExt
namespace Go.Proofs.Ytholpemmakdglaa.Mem
open Go.RowKit
set_option linter.unusedVariables false
section
variable (B bi bm bn pl pa ab ao n c g cm gn cn : Nat) (M N : List Int) (i : Nat) (x y pc : Int) (w : World)
set_option maxRecDepth 100000 in
set_option maxHeartbeats 4000000 in
theorem ext_ok (h : St w w B pl bi bm bn i ((M.length : Int) - 1) (.slice (some ⟨g, 0, none⟩) M.length cm) (.slice (some ⟨gn, 0, none⟩) N.length cn) M N) (hB : B ≤ w.heap.size)
    (hM : M.length = 0 ∨ (2 ≤ M.length ∧ M.getD (M.length - 1) 0 < x)) (hml : M.length ≤ 1000) (hnl : N.length ≤ 1000)
    (ha : w.heap[pa]? = some (.cells #[.slice (some ⟨ab, ao, none⟩) n c] 26 (0, 0))) (hpa : pa < B) (hab : ab < B) (hx : w.cell? ⟨ab, ao + i, none⟩ = some (.int .i32 x)) (hy : w.cell? ⟨ab, ao + (i + 1), none⟩ = some (.int .i32 y)) (hin : i + 1 < n)
    (hn : n ≤ 1000000) (hbl : B ≤ pl) (hbi : B ≤ bi) (hbm : B ≤ bm) (hbn : B ≤ bn) (hne : pl ≠ bi) :
    Calls Try.prog 46 #[.pointer (some ⟨pl, 0, none⟩), .pointer (some ⟨pa, 0, none⟩), .int .u32 pc, .pointer (some ⟨bi, 0, none⟩), .pointer (some ⟨bm, 0, none⟩), .pointer (some ⟨bn, 0, none⟩)] w fun e w' => e = .returned (.bool true) ∧
      ∃ g' c' gn' cn', St w w' B pl bi bm bn ((i : Int) + 2) ((M.length : Int) - 1 + 2) (.slice (some ⟨g', 0, none⟩) (M.length + 2) c') (.slice (some ⟨gn', 0, none⟩) (N.length + 1) cn') (M ++ [x, y]) (N ++ [pc]) := by
  obtain ⟨i0, hi0, hz0, hz1, hz2⟩ := info_parts infoI
  obtain ⟨j0, hj0, hy0, hy1, hy2⟩ := info_parts infoU
  have c1 := cell_of_one h.hix
  have c2 := cell_of_one h.hbm
  have c3 := cell_of_one h.hpl
  have c4 := cell_of_one ha
  have c7 := cell_of_one h.hbn
  have hin' : (i : Int) < (n : Int) := by omega
  have hin1 : (i : Int) + 1 < (n : Int) := by omega
  have hwr : IntKind.i64.wrap ((i : Int) + 1) = (i : Int) + 1 := by rw [IntKind.wrap_i64]; omega
  have hi0' : (0 : Int) ≤ (i : Int) := by omega
  have hi1' : (0 : Int) ≤ (i : Int) + 1 := by omega
  have htn : ((i : Int) + 1).toNat = i + 1 := by omega
  have H := Lib.hid h
  have HA := Lib.hid ha
  clear h ha
  have HM := Lib.hid hM
  by_cases hM0 : M.length = 0
  · have c1' : w.cell? ⟨bi, 0, none⟩ = some (.int .i64 (-1)) := by rw [c1, hM0]; rfl
    clear c1 hM0 hM
    go_enter Try.func46, Try.ntmps46
    go_wp2_with fail
    go_quiet (fail)
    go_wp2_with fail
    have e2 : (w.drewN nq).cell? ⟨bm, 0, none⟩ = some (.slice (some ⟨g, 0, none⟩) M.length cm) := c2
    have e3 : (w.drewN nq).cell? ⟨pl, 0, none⟩ = some (.int .i64 i) := c3
    have e4 : (w.drewN nq).cell? ⟨pa, 0, none⟩ = some (.slice (some ⟨ab, ao, none⟩) n c) := c4
    have ex : (w.drewN nq).cell? ⟨ab, ao + i, none⟩ = some (.int .i32 x) := hx
    have ey : (w.drewN nq).cell? ⟨ab, ao + (i + 1), none⟩ = some (.int .i32 y) := hy
    have HW := Lib.hid (H.out.same (W' := w.drewN nq) rfl (below_drewN (Below.refl _ _) nq))
    have hBW : B ≤ (w.drewN nq).heap.size := hB
    generalize w.drewN nq = W at *
    refine wp_region_mid 18 (fun w' => w'.cell? ⟨bm, 0, none⟩ = some (.slice (some ⟨g, 0, none⟩) M.length cm) ∧ w'.cell? ⟨pl, 0, none⟩ = some (.int .i64 i) ∧ w'.cell? ⟨pa, 0, none⟩ = some (.slice (some ⟨ab, ao, none⟩) n c) ∧ w'.cell? ⟨ab, ao + i, none⟩ = some (.int .i32 x) ∧ w'.cell? ⟨ab, ao + (i + 1), none⟩ = some (.int .i32 y)) (by kernel_rfl) (by kernel_rfl) ⟨e2, e3, e4, ex, ey⟩ ?_
    simp only [List.take_succ_cons, List.take_zero, List.drop_succ_cons, List.drop_zero]
    iterate 18
      refine wpHeld_step (v := ?_) (by rfl) ?_ ?_
      rotate_left
      · intro w hSw; (try dsimp only at hSw); go_simp; try with_reducible rfl
      try simp only [Act.put, List.setIfInBounds_toArray, List.set_cons_zero, List.set_cons_succ]
    refine wpHeld_nil ⟨_, .slice (some ⟨W.heap.size, 0, none⟩) 2 2, W.drew.alloc (.cells #[.int .i32 x, .int .i32 y] 21), rfl, by rfl, ?_, ?_, ?_⟩
    · go_simp
    · have n2 := World.new_ne W _ e2
      have n3 := World.new_ne W _ e3
      have n4 := World.new_ne W _ e4
      have nx := World.new_ne W _ ex
      have ny := World.new_ne W _ ey
      go_keep
    have HW1 := Lib.hid ((HW.out.same (W' := W.drew) rfl (below_drewN (Below.refl _ _) 1)).alloc hBW (.cells #[.int .i32 x, .int .i32 y] 21))
    have hnews := World.news_of_block (B := W.heap.size) (cs := #[.int .i32 x, .int .i32 y]) (t := 21) (fr := (0, 0)) (blk_new W.drew (.cells #[.int .i32 x, .int .i32 y] 21))
    have hs1 : (W.drew.alloc (.cells #[.int .i32 x, .int .i32 y] 21)).heap.size = W.heap.size + 1 := by simp
    have HN := Lib.hid hnews; clear hnews
    generalize W.drew.alloc (.cells #[.int .i32 x, .int .i32 y] 21) = W1 at *
    simp only [List.setIfInBounds_toArray, List.set_cons_zero, List.set_cons_succ]
    refine wpList_append_lies W1 rfl (.tmp 27) (.tmp 45) 26 rfl B 21 i0 (.int .i32 0) 1 4 (by kernel_rfl) hi0 hz0 hz1 hz2 rfl (by decide) (.slice (some ⟨g, 0, none⟩) M.length cm) M.length (M.map (Value.int .i32)) rfl HW1.out.hom ⟨W.heap.size, 0, none⟩ 2 2 [.int .i32 x, .int .i32 y] rfl rfl HN.out (by simp [Value.oneCell']) (by omega) (by unfold maxLen; omega) (by omega) (by omega) (W.heap.size + 1) hs1 ?_
    intro g2 c2' w2 hown hg hg2 hlt
    have kb := blk_grown HW1.out.hbm hg (own_apart HW1.out.hom HW1.out.hbm (by decide))
    have k1 := cell_of_one kb
    have k2 := free_of_one kb
    have H2 := Lib.hid (HW1.out.setM (M' := M ++ [x, y]) (vm' := .slice (some ⟨g2, 0, none⟩) (M.length + 2) c2') (by omega) hbm hg (by simpa using hown))
    have hs2 : B ≤ (w2.setCell ⟨bm, 0, none⟩ (.slice (some ⟨g2, 0, none⟩) (M.length + 2) c2')).heap.size := by
      have := hg.size
      simp
      omega
    clear hown hg kb hg2 hlt
    go_wp2_with fail
    refine NoPanic.normal ?_
    have d1 := cell_of_one H2.out.hix
    have d2 := free_of_one H2.out.hix
    have d3 := cell_of_one H2.out.hpl
    have d4 := free_of_one H2.out.hpl
    have d5 := cell_of_one H2.out.hbn
    have d6 := free_of_one H2.out.hbn
    have x1 : bn ≠ pl := blk_apart H2.out.hbn H2.out.hpl (by decide)
    have x2 : bn ≠ bi := blk_apart H2.out.hbn H2.out.hix (by decide)
    generalize w2.setCell ⟨bm, 0, none⟩ (.slice (some ⟨g2, 0, none⟩) (M.length + 2) c2') = W2 at *
    have H3 := Lib.hid ((((H2.out.setPl hbl hne ((i : Int) + 2)).setIx hbi hne ((M.length : Int) - 1 + 2)).alloc (by simpa using hs2) (.cells #[.int .u32 pc] 27)))
    have hb3 := blk_new ((W2.setCell ⟨pl, 0, none⟩ (.int .i64 ((i : Int) + 2))).setCell ⟨bi, 0, none⟩ (.int .i64 ((M.length : Int) - 1 + 2))) (.cells #[.int .u32 pc] 27)
    rw [show ((W2.setCell ⟨pl, 0, none⟩ (.int .i64 ((i : Int) + 2))).setCell ⟨bi, 0, none⟩ (.int .i64 ((M.length : Int) - 1 + 2))).heap.size = W2.heap.size by simp] at hb3
    have hn3 := World.news_of_block (B := W2.heap.size) (cs := #[.int .u32 pc]) (t := 27) (fr := (0, 0)) hb3
    clear hb3
    have HN3 := Lib.hid hn3; clear hn3
    go_wp2_with (at_builtin; refine wpList_append_lies _ rfl (.tmp 54) (.tmp 56) 29 rfl B 27 j0 (.int .u32 0) 1 4 (by kernel_rfl) hj0 hy0 hy1 hy2 rfl (by decide) (.slice (some ⟨gn, 0, none⟩) N.length cn) N.length (N.map (Value.int .u32)) rfl H3.out.hon ⟨W2.heap.size, 0, none⟩ 1 1 [.int .u32 pc] rfl rfl HN3.out (by simp [Value.oneCell']) (by omega) (by unfold maxLen; omega) (by omega) (by simp; omega) (W2.heap.size + 1) (by simp) ?_; intro g3 c3' w3 hown hg hg3 hlt; have kb := blk_grown H3.out.hbn hg (own_apart H3.out.hon H3.out.hbn (by decide)); have k3 := cell_of_one kb; have k4 := free_of_one kb; have H4 := Lib.hid (H3.out.setN (N' := N ++ [pc]) (vn' := .slice (some ⟨g3, 0, none⟩) (N.length + 1) c3') (by simp; omega) hbn hg (by simpa using hown)); clear hown hg kb hg3 hlt)
    go_ret
    exact ⟨rfl, g2, c2', g3, c3', H4.out⟩
  · have hM2 : 2 ≤ M.length := by rcases hM with h | h <;> omega
    have hlast : M.getD (M.length - 1) 0 < x := by rcases hM with h | h; omega; exact h.2
    obtain ⟨lst, hlst⟩ : ∃ l, M.getD (M.length - 1) 0 = l := ⟨_, rfl⟩
    rw [hlst] at hlast
    have c5 := H.out.hom.cells (g := g) rfl (M.length - 1) (.int .i32 lst) (by rw [← hlst]; simp [List.getD_eq_getElem?_getD, List.getElem?_eq_getElem (show M.length - 1 < M.length by omega)])
    rw [Addr.add_lit, Nat.zero_add] at c5
    clear hlst hM hM0
    obtain ⟨k, hk⟩ : ∃ k, M.length - 1 = k := ⟨_, rfl⟩
    have hk2 : (M.length : Int) - 1 = (k : Int) := by omega
    rw [hk] at c5
    rw [hk2] at c1
    have hkm : (k : Int) < (M.length : Int) := by omega
    have hk0 : (0 : Int) < (k : Int) := by omega
    have hk0n : 0 < k := by omega
    have hk0d : decide (0 < k) = true := by simpa using hk0n
    have d1' : decide (x ≤ lst) = false := by simpa using hlast
    have HK2 := Lib.hid hk2
    clear hk hk2
    go_enter Try.func46, Try.ntmps46
    go_wp2_with fail
    go_quiet (fail)
    go_wp2_with fail
    have e2 : (w.drewN nq).cell? ⟨bm, 0, none⟩ = some (.slice (some ⟨g, 0, none⟩) M.length cm) := c2
    have e3 : (w.drewN nq).cell? ⟨pl, 0, none⟩ = some (.int .i64 i) := c3
    have e4 : (w.drewN nq).cell? ⟨pa, 0, none⟩ = some (.slice (some ⟨ab, ao, none⟩) n c) := c4
    have ex : (w.drewN nq).cell? ⟨ab, ao + i, none⟩ = some (.int .i32 x) := hx
    have ey : (w.drewN nq).cell? ⟨ab, ao + (i + 1), none⟩ = some (.int .i32 y) := hy
    have HW := Lib.hid (H.out.same (W' := w.drewN nq) rfl (below_drewN (Below.refl _ _) nq))
    have hBW : B ≤ (w.drewN nq).heap.size := hB
    generalize w.drewN nq = W at *
    refine wp_region_mid 18 (fun w' => w'.cell? ⟨bm, 0, none⟩ = some (.slice (some ⟨g, 0, none⟩) M.length cm) ∧ w'.cell? ⟨pl, 0, none⟩ = some (.int .i64 i) ∧ w'.cell? ⟨pa, 0, none⟩ = some (.slice (some ⟨ab, ao, none⟩) n c) ∧ w'.cell? ⟨ab, ao + i, none⟩ = some (.int .i32 x) ∧ w'.cell? ⟨ab, ao + (i + 1), none⟩ = some (.int .i32 y)) (by kernel_rfl) (by kernel_rfl) ⟨e2, e3, e4, ex, ey⟩ ?_
    simp only [List.take_succ_cons, List.take_zero, List.drop_succ_cons, List.drop_zero]
    iterate 18
      refine wpHeld_step (v := ?_) (by rfl) ?_ ?_
      rotate_left
      · intro w hSw; (try dsimp only at hSw); go_simp; try with_reducible rfl
      try simp only [Act.put, List.setIfInBounds_toArray, List.set_cons_zero, List.set_cons_succ]
    refine wpHeld_nil ⟨_, .slice (some ⟨W.heap.size, 0, none⟩) 2 2, W.drew.alloc (.cells #[.int .i32 x, .int .i32 y] 21), rfl, by rfl, ?_, ?_, ?_⟩
    · go_simp
    · have n2 := World.new_ne W _ e2
      have n3 := World.new_ne W _ e3
      have n4 := World.new_ne W _ e4
      have nx := World.new_ne W _ ex
      have ny := World.new_ne W _ ey
      go_keep
    have HW1 := Lib.hid ((HW.out.same (W' := W.drew) rfl (below_drewN (Below.refl _ _) 1)).alloc hBW (.cells #[.int .i32 x, .int .i32 y] 21))
    have hnews := World.news_of_block (B := W.heap.size) (cs := #[.int .i32 x, .int .i32 y]) (t := 21) (fr := (0, 0)) (blk_new W.drew (.cells #[.int .i32 x, .int .i32 y] 21))
    have hs1 : (W.drew.alloc (.cells #[.int .i32 x, .int .i32 y] 21)).heap.size = W.heap.size + 1 := by simp
    have HN := Lib.hid hnews; clear hnews
    generalize W.drew.alloc (.cells #[.int .i32 x, .int .i32 y] 21) = W1 at *
    simp only [List.setIfInBounds_toArray, List.set_cons_zero, List.set_cons_succ]
    refine wpList_append_lies W1 rfl (.tmp 27) (.tmp 45) 26 rfl B 21 i0 (.int .i32 0) 1 4 (by kernel_rfl) hi0 hz0 hz1 hz2 rfl (by decide) (.slice (some ⟨g, 0, none⟩) M.length cm) M.length (M.map (Value.int .i32)) rfl HW1.out.hom ⟨W.heap.size, 0, none⟩ 2 2 [.int .i32 x, .int .i32 y] rfl rfl HN.out (by simp [Value.oneCell']) (by omega) (by unfold maxLen; omega) (by omega) (by omega) (W.heap.size + 1) hs1 ?_
    intro g2 c2' w2 hown hg hg2 hlt
    have kb := blk_grown HW1.out.hbm hg (own_apart HW1.out.hom HW1.out.hbm (by decide))
    have k1 := cell_of_one kb
    have k2 := free_of_one kb
    have H2 := Lib.hid (HW1.out.setM (M' := M ++ [x, y]) (vm' := .slice (some ⟨g2, 0, none⟩) (M.length + 2) c2') (by omega) hbm hg (by simpa using hown))
    have hs2 : B ≤ (w2.setCell ⟨bm, 0, none⟩ (.slice (some ⟨g2, 0, none⟩) (M.length + 2) c2')).heap.size := by
      have := hg.size
      simp
      omega
    clear hown hg kb hg2 hlt
    go_wp2_with fail
    refine NoPanic.normal ?_
    have d1 := cell_of_one H2.out.hix
    have d2 := free_of_one H2.out.hix
    have d3 := cell_of_one H2.out.hpl
    have d4 := free_of_one H2.out.hpl
    have d5 := cell_of_one H2.out.hbn
    have d6 := free_of_one H2.out.hbn
    have x1 : bn ≠ pl := blk_apart H2.out.hbn H2.out.hpl (by decide)
    have x2 : bn ≠ bi := blk_apart H2.out.hbn H2.out.hix (by decide)
    generalize w2.setCell ⟨bm, 0, none⟩ (.slice (some ⟨g2, 0, none⟩) (M.length + 2) c2') = W2 at *
    have H3 := Lib.hid ((((H2.out.setPl hbl hne ((i : Int) + 2)).setIx hbi hne ((M.length : Int) - 1 + 2)).alloc (by simpa using hs2) (.cells #[.int .u32 pc] 27)))
    have hb3 := blk_new ((W2.setCell ⟨pl, 0, none⟩ (.int .i64 ((i : Int) + 2))).setCell ⟨bi, 0, none⟩ (.int .i64 ((M.length : Int) - 1 + 2))) (.cells #[.int .u32 pc] 27)
    rw [show ((W2.setCell ⟨pl, 0, none⟩ (.int .i64 ((i : Int) + 2))).setCell ⟨bi, 0, none⟩ (.int .i64 ((M.length : Int) - 1 + 2))).heap.size = W2.heap.size by simp] at hb3
    have hn3 := World.news_of_block (B := W2.heap.size) (cs := #[.int .u32 pc]) (t := 27) (fr := (0, 0)) hb3
    clear hb3
    have HN3 := Lib.hid hn3; clear hn3
    go_wp2_with (at_builtin; refine wpList_append_lies _ rfl (.tmp 54) (.tmp 56) 29 rfl B 27 j0 (.int .u32 0) 1 4 (by kernel_rfl) hj0 hy0 hy1 hy2 rfl (by decide) (.slice (some ⟨gn, 0, none⟩) N.length cn) N.length (N.map (Value.int .u32)) rfl H3.out.hon ⟨W2.heap.size, 0, none⟩ 1 1 [.int .u32 pc] rfl rfl HN3.out (by simp [Value.oneCell']) (by omega) (by unfold maxLen; omega) (by omega) (by simp; omega) (W2.heap.size + 1) (by simp) ?_; intro g3 c3' w3 hown hg hg3 hlt; have kb := blk_grown H3.out.hbn hg (own_apart H3.out.hon H3.out.hbn (by decide)); have k3 := cell_of_one kb; have k4 := free_of_one kb; have H4 := Lib.hid (H3.out.setN (N' := N ++ [pc]) (vn' := .slice (some ⟨g3, 0, none⟩) (N.length + 1) c3') (by simp; omega) hbn hg (by simpa using hown)); clear hown hg kb hg3 hlt)
    go_ret
    exact ⟨rfl, g2, c2', g3, c3', H4.out⟩
set_option maxRecDepth 100000 in
set_option maxHeartbeats 4000000 in
theorem ext_no (h : St w w B pl bi bm bn i ((M.length : Int) - 1) (.slice (some ⟨g, 0, none⟩) M.length cm) (.slice (some ⟨gn, 0, none⟩) N.length cn) M N) (hM2 : 2 ≤ M.length) (hml : M.length ≤ 1000) (hlast : x ≤ M.getD (M.length - 1) 0)
    (ha : w.heap[pa]? = some (.cells #[.slice (some ⟨ab, ao, none⟩) n c] 26 (0, 0))) (hx : w.cell? ⟨ab, ao + i, none⟩ = some (.int .i32 x)) (hin : i < n) :
    Calls Try.prog 46 #[.pointer (some ⟨pl, 0, none⟩), .pointer (some ⟨pa, 0, none⟩), .int .u32 pc, .pointer (some ⟨bi, 0, none⟩), .pointer (some ⟨bm, 0, none⟩), .pointer (some ⟨bn, 0, none⟩)] w fun e w' => e = .returned (.bool false) ∧ ∃ q, w' = w.drewN q := by
  have c1 := cell_of_one h.hix
  have c2 := cell_of_one h.hbm
  have c3 := cell_of_one h.hpl
  have c4 := cell_of_one ha
  have hin' : (i : Int) < (n : Int) := by omega
  obtain ⟨lst, hlst⟩ : ∃ l, M.getD (M.length - 1) 0 = l := ⟨_, rfl⟩
  rw [hlst] at hlast
  have c5 := h.hom.cells (g := g) rfl (M.length - 1) (.int .i32 lst) (by rw [← hlst]; simp [List.getD_eq_getElem?_getD, List.getElem?_eq_getElem (show M.length - 1 < M.length by omega)])
  rw [Addr.add_lit, Nat.zero_add] at c5
  clear hlst h ha
  obtain ⟨k, hk⟩ : ∃ k, M.length - 1 = k := ⟨_, rfl⟩
  have hk2 : (M.length : Int) - 1 = (k : Int) := by omega
  rw [hk] at c5
  rw [hk2] at c1
  have hkm : (k : Int) < (M.length : Int) := by omega
  have hk0 : (0 : Int) < (k : Int) := by omega
  have hk0n : 0 < k := by omega
  have hk0d : decide (0 < k) = true := by simpa using hk0n
  have d1' : decide (x ≤ lst) = true := by simpa using hlast
  clear hk hk2
  go_enter Try.func46, Try.ntmps46
  go_wp2_with fail
  go_quiet (fail)
  go_wp2
  go_ret
  exact ⟨rfl, _, rfl⟩
end
end Go.Proofs.Ytholpemmakdglaa.Mem
