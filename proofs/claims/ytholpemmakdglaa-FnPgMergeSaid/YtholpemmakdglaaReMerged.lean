/- The reference's merging of two lists of ranges. -/
import Derived.Test.YtholpemmakdglaaMergeL
import Derived.Deep.RegionLaw
import Derived.Deep.RegionLawGrows
import Derived.Deep.QuietTactic
import Derived.BigQuiet
namespace Go.Proofs.Ytholpemmakdglaa.Mem
open Go.RowKit
set_option linter.unusedVariables false
theorem ints_drop2 {w : World} {B b o : Nat} {k : IntKind} {L : List Int} (h : IntsAt w B k (some ⟨b, o, none⟩) L) : IntsAt w B k (some ⟨b, o + 2, none⟩) (L.drop 2) := fun hn => by
  obtain ⟨b', o', he, hb, hc⟩ := h (by simp at hn; omega)
  injection he with he
  injection he with h1 h2
  subst h1 h2
  refine ⟨b, o + 2, rfl, hb, fun j hj => ?_⟩
  have := hc (j + 2) (by simp at hj; omega)
  rw [show o + 2 + j = o + (j + 2) by omega, this]
  simp [List.getD_eq_getElem?_getD, Nat.add_comm]
theorem ints_nil {w : World} {B : Nat} {k : IntKind} {A : Option Addr} {L : List Int} (h : L.length = 0) : IntsAt w B k A L := fun hn => absurd hn (by omega)
theorem two_of {L : List Int} (h : 2 ≤ L.length) : ∃ a b L', L = a :: b :: L' := by
  match L, h with
  | a :: b :: L', _ => exact ⟨a, b, L', rfl⟩
theorem own_slice {w : World} {base : Nat} {e : TypeId} {v : Value} {k : Nat} {xs : List Value} (h : w.ownsRow base e 1 v k xs) : ∃ A c, v = .slice A k c := by
  rcases h.2 with ⟨rfl, rfl⟩ | ⟨g, cap, cur, rfl, _⟩
  · exact ⟨_, _, rfl⟩
  · exact ⟨_, _, rfl⟩
theorem own_heap {W q : World} {base : Nat} {e : TypeId} {v : Value} {k : Nat} {xs : List Value} (h : W.ownsRow base e 1 v k xs) (hq : q.heap = W.heap) : q.ownsRow base e 1 v k xs := own_keep h fun g _ => by rw [hq]
theorem rm_M {w cur w' : World} {B : Nat} {vM vN : Value} {M N : List Value} {m n : Nat} (hg : cur.grownBy w' vM.ownBlock) (hM : cur.ownsRow B 21 1 vM m M) (hN : cur.ownsRow B 27 1 vN n N) (hb : Below B w cur) (hs : B ≤ cur.heap.size) :
    w'.ownsRow B 27 1 vN n N ∧ Below B w w' ∧ B ≤ w'.heap.size :=
  ⟨own_keep hN fun g hgo => hg.block g (own_lt hN hgo).2 (Ne.symm (own_apart2 hM hN (by decide) g hgo)), hb.grown hg hs fun g hgo => (own_lt hM hgo).1, Nat.le_trans hs hg.size⟩
theorem rm_X {cur w' : World} {B b m : Nat} {vM : Value} {M : List Value} {cs : Array Value} (hg : cur.grownBy w' vM.ownBlock) (hM : cur.ownsRow B 21 1 vM m M) (hX : cur.heap[b]? = some (.cells cs 27 (0, 0))) : w'.heap[b]? = some (.cells cs 27 (0, 0)) :=
  blk_grown hX hg (own_apart hM hX (by decide))
theorem rm_N {w cur w' : World} {B : Nat} {vM vN : Value} {M N : List Value} {m n : Nat} (hg : cur.grownBy w' vN.ownBlock) (hM : cur.ownsRow B 21 1 vM m M) (hN : cur.ownsRow B 27 1 vN n N) (hb : Below B w cur) (hs : B ≤ cur.heap.size) :
    w'.ownsRow B 21 1 vM m M ∧ Below B w w' ∧ B ≤ w'.heap.size :=
  ⟨own_keep hM fun g hgo => hg.block g (own_lt hM hgo).2 (Ne.symm (own_apart2 hN hM (by decide) g hgo)), hb.grown hg hs fun g hgo => (own_lt hN hgo).1, Nat.le_trans hs hg.size⟩
section
variable (nl nr cl cr : Nat) (Al Ar : Option Addr) (ls rs : List Int) (lp rp : Int) (w : World)
set_option maxRecDepth 100000 in
set_option maxHeartbeats 8000000 in
theorem remerged_any (zl : IntsAt w w.heap.size .i32 Al ls) (zr : IntsAt w w.heap.size .i32 Ar rs) (el : ls.length % 2 = 0) (er : rs.length % 2 = 0) (ml : ls.length ≤ 200) (mr : rs.length ≤ 200) (hcl : ls.length ≤ cl) (hcr : rs.length ≤ cr) :
    Calls Try.prog 15 #[.slice Al ls.length cl, .slice Ar rs.length cr, .int .u32 lp, .int .u32 rp] w fun e w' => ∃ A c A' c', e = .returned (.tuple #[.slice A (spM lp rp (ls.length + rs.length) [] [] ls rs).1.length c, .slice A' (spM lp rp (ls.length + rs.length) [] [] ls rs).2.length c', .bool (clsF (-1) (spM lp rp (ls.length + rs.length) [] [] ls rs).1)]) ∧ Below w.heap.size w w' ∧ IntsAt w' w'.heap.size .i32 A (spM lp rp (ls.length + rs.length) [] [] ls rs).1 ∧ IntsAt w' w'.heap.size .u32 A' (spM lp rp (ls.length + rs.length) [] [] ls rs).2 := by
  obtain ⟨i0, hi0, hz0, hz1, hz2⟩ := info_parts infoI
  obtain ⟨j0, hj0, hy0, hy1, hy2⟩ := info_parts infoU
  obtain ⟨B, hB⟩ : ∃ B, w.heap.size = B := ⟨_, rfl⟩
  rw [hB] at zl zr
  have HBE := Lib.hid hB; clear hB
  obtain ⟨nl, hnl⟩ : ∃ k, ls.length = k := ⟨_, rfl⟩
  obtain ⟨nr, hnr⟩ : ∃ k, rs.length = k := ⟨_, rfl⟩
  rw [hnl] at ml el hcl
  rw [hnr] at mr er hcr
  rw [hnl, hnr]
  have HNL := Lib.hid hnl; clear hnl
  have HNR := Lib.hid hnr; clear hnr
  have HEL := Lib.hid el
  have HER := Lib.hid er
  have HZL := Lib.hid zl
  have HZR := Lib.hid zr
  clear zl zr el er
  go_enter Try.func15, Try.ntmps15
  go_wp2_with fail
  go_loopg [0, 1, 8, 9] (nl + nr + 1) (fun gk s0 s1 s8 s9 wx => ∃ (n1 n2 c1 c2 f : Nat) (A A' : Option Addr) (L R M N : List Int) (vM vN : Value), Hid (L.length = n1) ∧ Hid (R.length = n2) ∧ Hid (n1 % 2 = 0) ∧ Hid (n2 % 2 = 0) ∧ n1 + n2 < gk ∧ n1 ≤ 200 ∧ n2 ≤ 200 ∧ s0 = .slice A n1 c1 ∧ s1 = .slice A' n2 c2 ∧ n1 ≤ c1 ∧ n2 ≤ c2 ∧ vM = s8 ∧ vN = s9 ∧ Hid (M.length + n1 + n2 = nl + nr) ∧ Hid (2 * N.length + n1 + n2 = nl + nr) ∧ Hid (n1 + n2 ≤ f) ∧ Hid (spM lp rp (nl + nr) [] [] ls rs = spM lp rp f M N L R) ∧
    Hid (IntsAt wx B .i32 A L) ∧ Hid (IntsAt wx B .i32 A' R) ∧ Hid (wx.ownsRow B 21 1 vM M.length (M.map (Value.int .i32))) ∧ Hid (wx.ownsRow B 27 1 vN N.length (N.map (Value.int .u32))) ∧ Hid (Below B w wx) ∧ B ≤ wx.heap.size)
  case atStart => exact ⟨nl, nr, cl, cr, nl + nr, Al, Ar, ls, rs, [], [], .slice none 0 0, .slice none 0 0, HNL.out, HNR.out, HEL.out, HER.out, by omega, ml, mr, rfl, rfl, hcl, hcr, rfl, rfl, Lib.hid (by simp), Lib.hid (by simp), Lib.hid (by omega), rfl, HZL.out, HZR.out, World.ownsRow_nil _ _ _ _, World.ownsRow_nil _ _ _ _, Below.refl _ _, by rw [HBE.out]; exact Nat.le_refl _⟩
  case round =>
    obtain ⟨n1, n2, c1, c2, f, A, A', L, R, M, N, vM, vN, HL1, HL2, HI2, HJ2, hgk, h200, h201, rfl, rfl, hc1, hc2, rfl, rfl, HML, HNN, HFU, HSP, HZ1, HZ2, HOM, HON, HBX, hBS⟩ := hrel
    obtain ⟨g', rfl⟩ : ∃ g', gk = g' + 1 := ⟨gk - 1, by omega⟩
    by_cases hil : n1 = 0
    · subst hil
      have EN0 := Lib.hid (show L = [] from List.length_eq_zero_iff.1 HL1.out)
      by_cases hjr : n2 = 0
      · subst hjr
        have hfin : spM lp rp (nl + nr) [] [] ls rs = (M, N) := by
          rw [HSP.out, EN0.out, show R = [] from List.length_eq_zero_iff.1 HL2.out]
          cases f <;> rfl
        have HFIN := Lib.hid hfin; clear hfin
        obtain ⟨AM, kM, rfl⟩ := own_slice HOM.out
        obtain ⟨AN, kN, rfl⟩ := own_slice HON.out
        have HCR := Lib.hid (reClass_any AM kM M wr (B := wr.heap.size) (by have := HML.out; omega) (IntsAt.own HOM.out))
        have tz : decide ((0 : Int) < ((0 : Nat) : Int)) = false := by decide
        go_wp2_with (go_at_call 25; refine (Calls.mono HCR.out ?_); rintro e w1 ⟨rfl, q, rfl⟩)
        go_ret3
        rw [HFIN.out]
        exact ⟨AM, kM, AN, kN, rfl, by rw [HBE.out]; exact below_drewN HBX.out _, (IntsAt.own HOM.out).drewN _, (IntsAt.own HON.out).drewN _⟩
      · have hltn2 : 2 ≤ n2 := by have := HJ2.out; omega
        obtain ⟨rb, ro, hAn2, hbn2, hcelln2⟩ := HZ2.out (by rw [HL2.out]; omega)
        subst hAn2
        obtain ⟨c, d, R', hln2⟩ := two_of (L := R) (by rw [HL2.out]; omega)
        have xc : wr.cell? ⟨rb, ro + 0, none⟩ = some (.int .i32 c) := by have := hcelln2 0 (by rw [HL2.out]; omega); rwa [hln2] at this
        have xd : wr.cell? ⟨rb, ro + 1, none⟩ = some (.int .i32 d) := by have := hcelln2 1 (by rw [HL2.out]; omega); rwa [hln2] at this
        have xc' : wr.cell? ⟨rb, ro, none⟩ = some (.int .i32 c) := xc
        have En2 := Lib.hid hln2
        clear hcelln2 hln2
        have tan2 : (0 : Int) < (n2 : Int) := by omega
        have tbn2 : 0 < n2 := by omega
        have tcn2 : (2 : Int) ≤ (c2 : Int) := by omega
        have tdn2 : (2 : Int) ≤ (n2 : Int) := by omega
        have ten2 : (n2 : Int) ≤ (c2 : Int) := by omega
        have tfn2 : ((n2 : Int) == 0) = false := by simp; omega
        have hmM : M.length ≤ 400 := by have := HML.out; omega
        have hnN : N.length ≤ 400 := by have := HNN.out; omega
        have HM0 := Lib.hid (fun (q : World) (h : q.heap = wr.heap) => own_heap HOM.out h)
        have HN0 := Lib.hid (fun (q : World) (h : q.heap = wr.heap) => own_heap HON.out h)
        have HMA := Lib.hid (fun (q : World) (h : q.heap = (wr.alloc (.cells #[.int .u32 rp] 27)).heap) => own_heap (HOM.out.alloc _) h)
        have HNA := Lib.hid (fun (q : World) (h : q.heap = (wr.alloc (.cells #[.int .u32 rp] 27)).heap) => own_heap (HON.out.alloc _) h)
        have HS0 := Lib.hid (fun (q : World) (h : q.heap = wr.heap) => (show B ≤ q.heap.size by rw [h]; exact hBS))
        have HSA := Lib.hid (fun (q : World) (h : q.heap = (wr.alloc (.cells #[.int .u32 rp] 27)).heap) => (show B ≤ q.heap.size by rw [h]; simp; omega))
        have HC0 := Lib.hid (fun (q : World) (h : q.heap = wr.heap) => (show ∀ j u, [Value.int .i32 c, Value.int .i32 d][j]? = some u → q.cell? ((⟨rb, ro, none⟩ : Addr).add j) = some u from fun j u hu => by
          rw [Addr.add_lit, World.cell?_of_block (w := wr) (a := ⟨rb, ro + j, none⟩) (by rw [h])]
          match j, hu with
          | 0, hu => simp at hu; subst hu; exact xc
          | 1, hu => simp at hu; subst hu; exact xd))
        have HCA := Lib.hid (fun (q : World) (h : q.heap = (wr.alloc (.cells #[.int .u32 rp] 27)).heap) => (show ∀ j u, [Value.int .i32 c, Value.int .i32 d][j]? = some u → q.cell? ((⟨rb, ro, none⟩ : Addr).add j) = some u from fun j u hu => by
          rw [World.cell?_of_block (w := wr.alloc (.cells #[.int .u32 rp] 27)) (a := (⟨rb, ro, none⟩ : Addr).add j) (by rw [h]), Addr.add_lit, World.cell?_alloc_past _ _ _ (by omega), ← Addr.add_lit]
          exact HC0.out wr rfl j u hu))
        have HXA := Lib.hid (fun (q : World) (h : q.heap = (wr.alloc (.cells #[.int .u32 rp] 27)).heap) => (show q.heap[wr.heap.size]? = some (Obj.cells #[Value.int .u32 rp] 27 (0, 0)) by rw [h]; exact blk_new wr (.cells #[.int .u32 rp] 27)))
        have HB0 := Lib.hid (fun (q : World) (h : q.heap = wr.heap) (hb : q.os = wr.os ∧ q.tape = wr.tape ∧ q.output = wr.output) => (show Below B w q from HBX.out.trans ⟨hb.1, hb.2.1, hb.2.2, by rw [h]; exact Nat.le_refl _, fun k _ => by rw [h]⟩))
        have HBA := Lib.hid (fun (q : World) (h : q.heap = (wr.alloc (.cells #[.int .u32 rp] 27)).heap) (hb : q.os = wr.os ∧ q.tape = wr.tape ∧ q.output = wr.output) => (show Below B w q from (HBX.out.alloc hBS (.cells #[.int .u32 rp] 27)).trans ⟨hb.1, hb.2.1, hb.2.2, by rw [h]; exact Nat.le_refl _, fun k _ => by rw [h]⟩))
        obtain ⟨f', hf'⟩ : ∃ f', f = f' + 1 := ⟨f - 1, by have := HFU.out; omega⟩
        subst hf'
        have hstep : spM lp rp (nl + nr) [] [] ls rs = spM lp rp f' (M ++ [c, d]) (N ++ [rp]) [] R' := by
          rw [HSP.out, EN0.out, En2.out]; rfl
        have HSTEP := Lib.hid hstep; clear hstep
        by_cases hcc : c2 = 2
        · obtain rfl : n2 = 2 := by omega
          subst hcc
          go_wp2_with fail
          go_quiet (fail)
          go_wp2_with fail
          go_region_law (first | (refine step_append_lies _ rfl (.tmp 46) (.tmp 48) 26 rfl B 21 i0 (.int .i32 0) 1 4 (by kernel_rfl) hi0 hz0 hz1 hz2 rfl (by decide) vM M.length (M.map (Value.int .i32)) (by first | (simp [Act.eval]; done) | simp [Act.eval, Act.put]) (HM0.out _ rfl) ⟨rb, ro, none⟩ 2 2 [.int .i32 c, .int .i32 d] (by first | (simp [Act.eval]; done) | simp [Act.eval, Act.put]) rfl (HC0.out _ rfl) (by simp [Value.oneCell']) (by omega) (by unfold maxLen; omega) (by omega) (HS0.out _ rfl) _ rfl ?_; intro g1 k1 w1 hown1 hg1 hgg1 hlt1; have R1 := rm_M hg1 (HM0.out _ rfl) (HN0.out _ rfl) (HB0.out _ rfl ⟨rfl, rfl, rfl⟩) (HS0.out _ rfl); have HO1 := Lib.hid hown1; have HR1 := Lib.hid R1; clear hown1 hg1 hgg1 hlt1 R1) | (refine step_append_lies _ rfl (.tmp 46) (.tmp 48) 26 rfl B 21 i0 (.int .i32 0) 1 4 (by kernel_rfl) hi0 hz0 hz1 hz2 rfl (by decide) vM M.length (M.map (Value.int .i32)) (by first | (simp [Act.eval]; done) | simp [Act.eval, Act.put]) (HMA.out _ rfl) ⟨rb, ro, none⟩ 2 2 [.int .i32 c, .int .i32 d] (by first | (simp [Act.eval]; done) | simp [Act.eval, Act.put]) rfl (HCA.out _ rfl) (by simp [Value.oneCell']) (by omega) (by unfold maxLen; omega) (by omega) (HSA.out _ rfl) _ rfl ?_; intro g1 k1 w1 hown1 hg1 hgg1 hlt1; have R1 := rm_M hg1 (HMA.out _ rfl) (HNA.out _ rfl) (HBA.out _ rfl ⟨rfl, rfl, rfl⟩) (HSA.out _ rfl); have hX1 := rm_X hg1 (HMA.out _ rfl) (HXA.out _ rfl); have HX1 := Lib.hid hX1; clear hX1; have HO1 := Lib.hid hown1; have HR1 := Lib.hid R1; clear hown1 hg1 hgg1 hlt1 R1) | (refine step_append_lies _ rfl (.tmp 50) (.tmp 52) 29 rfl B 27 j0 (.int .u32 0) 1 4 (by kernel_rfl) hj0 hy0 hy1 hy2 rfl (by decide) vN N.length (N.map (Value.int .u32)) (by first | (simp [Act.eval]; done) | simp [Act.eval, Act.put]) HR1.out.1 ⟨wr.heap.size, 0, none⟩ 1 1 [.int .u32 rp] (by first | (simp [Act.eval]; done) | simp [Act.eval, Act.put]) rfl (World.news_of_block (cs := #[.int .u32 rp]) HX1.out) (by simp [Value.oneCell']) (by omega) (by unfold maxLen; omega) (by omega) HR1.out.2.2 _ rfl ?_; intro g2 k2 w2 hown2 hg2 hgg2 hlt2; have R2 := rm_N hg2 HO1.out HR1.out.1 HR1.out.2.1 HR1.out.2.2; have HO2 := Lib.hid hown2; have HR2 := Lib.hid R2; clear hown2 hg2 hgg2 hlt2 R2) | (refine step_append_lies _ rfl (.tmp 50) (.tmp 52) 29 rfl B 27 j0 (.int .u32 0) 1 4 (by kernel_rfl) hj0 hy0 hy1 hy2 rfl (by decide) vN N.length (N.map (Value.int .u32)) (by first | (simp [Act.eval]; done) | simp [Act.eval, Act.put]) (HR1.out.1.alloc _) ⟨w1.heap.size, 0, none⟩ 1 1 [.int .u32 rp] (by first | (simp [Act.eval]; done) | simp [Act.eval, Act.put]) rfl (World.news_of_block (cs := #[.int .u32 rp]) (blk_new w1 (.cells #[.int .u32 rp] 27))) (by simp [Value.oneCell']) (by omega) (by unfold maxLen; omega) (by omega) (by have := HR1.out.2.2; simp; omega) _ rfl ?_; intro g2 k2 w2 hown2 hg2 hgg2 hlt2; have R2 := rm_N hg2 (HO1.out.alloc _) (HR1.out.1.alloc _) (HR1.out.2.1.alloc HR1.out.2.2 _) (by have := HR1.out.2.2; simp; omega); have HO2 := Lib.hid hown2; have HR2 := Lib.hid R2; clear hown2 hg2 hgg2 hlt2 R2))
          all_goals go_wp2
          all_goals go_roundg g'
          all_goals first
            | omega
            | skip
          all_goals exact ⟨_, 0, _, 0, f', _, (some ⟨rb, ro, none⟩), [], R', M ++ [c, d], N ++ [rp], _, _, (by rw [← EN0.out]; exact HL1.out), (show R'.length = 2 - 2 by have := HL2.out; rw [En2.out] at this; simp only [List.length_cons] at this; omega), Lib.hid (by first | rfl | exact HI2.out), Lib.hid (by first | rfl | (have := HJ2.out; omega)), by omega, by omega, by omega, rfl, by simp, by omega, by omega, rfl, rfl, Lib.hid (by have := HML.out; rw [List.length_append]; simp only [List.length_cons, List.length_nil]; omega), Lib.hid (by have := HNN.out; rw [List.length_append]; simp only [List.length_cons, List.length_nil]; omega), Lib.hid (by have := HFU.out; omega), HSTEP, (by have h3 := ((HZ1.out).keep (fun b0 o0 hb0 => (HR2.out.2.1.cell (p := ⟨b0, o0, none⟩) hb0).trans (HBX.out.cell (p := ⟨b0, o0, none⟩) hb0).symm)); rw [EN0.out] at h3; exact h3), (ints_nil (by have := (show R'.length = 2 - 2 by have := HL2.out; rw [En2.out] at this; simp only [List.length_cons] at this; omega); omega)), Lib.hid (by simpa using HR2.out.1), Lib.hid (by simpa using HO2.out), Lib.hid HR2.out.2.1, HR2.out.2.2⟩
        · have hz9 : ¬ (c2 : Int) - 2 = 0 := by omega
          have hz8 : ¬ (c2 : Int) = 2 := by omega
          go_wp2_with fail
          go_quiet (fail)
          go_wp2_with fail
          go_region_law (first | (refine step_append_lies _ rfl (.tmp 46) (.tmp 48) 26 rfl B 21 i0 (.int .i32 0) 1 4 (by kernel_rfl) hi0 hz0 hz1 hz2 rfl (by decide) vM M.length (M.map (Value.int .i32)) (by first | (simp [Act.eval]; done) | simp [Act.eval, Act.put]) (HM0.out _ rfl) ⟨rb, ro, none⟩ 2 c2 [.int .i32 c, .int .i32 d] (by first | (simp [Act.eval]; done) | simp [Act.eval, Act.put]) rfl (HC0.out _ rfl) (by simp [Value.oneCell']) (by omega) (by unfold maxLen; omega) (by omega) (HS0.out _ rfl) _ rfl ?_; intro g1 k1 w1 hown1 hg1 hgg1 hlt1; have R1 := rm_M hg1 (HM0.out _ rfl) (HN0.out _ rfl) (HB0.out _ rfl ⟨rfl, rfl, rfl⟩) (HS0.out _ rfl); have HO1 := Lib.hid hown1; have HR1 := Lib.hid R1; clear hown1 hg1 hgg1 hlt1 R1) | (refine step_append_lies _ rfl (.tmp 46) (.tmp 48) 26 rfl B 21 i0 (.int .i32 0) 1 4 (by kernel_rfl) hi0 hz0 hz1 hz2 rfl (by decide) vM M.length (M.map (Value.int .i32)) (by first | (simp [Act.eval]; done) | simp [Act.eval, Act.put]) (HMA.out _ rfl) ⟨rb, ro, none⟩ 2 c2 [.int .i32 c, .int .i32 d] (by first | (simp [Act.eval]; done) | simp [Act.eval, Act.put]) rfl (HCA.out _ rfl) (by simp [Value.oneCell']) (by omega) (by unfold maxLen; omega) (by omega) (HSA.out _ rfl) _ rfl ?_; intro g1 k1 w1 hown1 hg1 hgg1 hlt1; have R1 := rm_M hg1 (HMA.out _ rfl) (HNA.out _ rfl) (HBA.out _ rfl ⟨rfl, rfl, rfl⟩) (HSA.out _ rfl); have hX1 := rm_X hg1 (HMA.out _ rfl) (HXA.out _ rfl); have HX1 := Lib.hid hX1; clear hX1; have HO1 := Lib.hid hown1; have HR1 := Lib.hid R1; clear hown1 hg1 hgg1 hlt1 R1) | (refine step_append_lies _ rfl (.tmp 50) (.tmp 52) 29 rfl B 27 j0 (.int .u32 0) 1 4 (by kernel_rfl) hj0 hy0 hy1 hy2 rfl (by decide) vN N.length (N.map (Value.int .u32)) (by first | (simp [Act.eval]; done) | simp [Act.eval, Act.put]) HR1.out.1 ⟨wr.heap.size, 0, none⟩ 1 1 [.int .u32 rp] (by first | (simp [Act.eval]; done) | simp [Act.eval, Act.put]) rfl (World.news_of_block (cs := #[.int .u32 rp]) HX1.out) (by simp [Value.oneCell']) (by omega) (by unfold maxLen; omega) (by omega) HR1.out.2.2 _ rfl ?_; intro g2 k2 w2 hown2 hg2 hgg2 hlt2; have R2 := rm_N hg2 HO1.out HR1.out.1 HR1.out.2.1 HR1.out.2.2; have HO2 := Lib.hid hown2; have HR2 := Lib.hid R2; clear hown2 hg2 hgg2 hlt2 R2) | (refine step_append_lies _ rfl (.tmp 50) (.tmp 52) 29 rfl B 27 j0 (.int .u32 0) 1 4 (by kernel_rfl) hj0 hy0 hy1 hy2 rfl (by decide) vN N.length (N.map (Value.int .u32)) (by first | (simp [Act.eval]; done) | simp [Act.eval, Act.put]) (HR1.out.1.alloc _) ⟨w1.heap.size, 0, none⟩ 1 1 [.int .u32 rp] (by first | (simp [Act.eval]; done) | simp [Act.eval, Act.put]) rfl (World.news_of_block (cs := #[.int .u32 rp]) (blk_new w1 (.cells #[.int .u32 rp] 27))) (by simp [Value.oneCell']) (by omega) (by unfold maxLen; omega) (by omega) (by have := HR1.out.2.2; simp; omega) _ rfl ?_; intro g2 k2 w2 hown2 hg2 hgg2 hlt2; have R2 := rm_N hg2 (HO1.out.alloc _) (HR1.out.1.alloc _) (HR1.out.2.1.alloc HR1.out.2.2 _) (by have := HR1.out.2.2; simp; omega); have HO2 := Lib.hid hown2; have HR2 := Lib.hid R2; clear hown2 hg2 hgg2 hlt2 R2))
          all_goals go_wp2
          all_goals go_roundg g'
          all_goals first
            | omega
            | skip
          all_goals exact ⟨_, n2 - 2, _, c2 - 2, f', _, (some ⟨rb, ro + 2, none⟩), [], R', M ++ [c, d], N ++ [rp], _, _, (by rw [← EN0.out]; exact HL1.out), (show R'.length = n2 - 2 by have := HL2.out; rw [En2.out] at this; simp only [List.length_cons] at this; omega), Lib.hid (by first | rfl | exact HI2.out), Lib.hid (by first | rfl | (have := HJ2.out; omega)), by omega, by omega, by omega, rfl, by simp, by omega, by omega, rfl, rfl, Lib.hid (by have := HML.out; rw [List.length_append]; simp only [List.length_cons, List.length_nil]; omega), Lib.hid (by have := HNN.out; rw [List.length_append]; simp only [List.length_cons, List.length_nil]; omega), Lib.hid (by have := HFU.out; omega), HSTEP, (by have h3 := ((HZ1.out).keep (fun b0 o0 hb0 => (HR2.out.2.1.cell (p := ⟨b0, o0, none⟩) hb0).trans (HBX.out.cell (p := ⟨b0, o0, none⟩) hb0).symm)); rw [EN0.out] at h3; exact h3), (by have h2 := ints_drop2 (HZ2.out.keep (fun b0 o0 hb0 => (HR2.out.2.1.cell (p := ⟨b0, o0, none⟩) hb0).trans (HBX.out.cell (p := ⟨b0, o0, none⟩) hb0).symm)); rw [(show R.drop 2 = R' by rw [En2.out]; rfl)] at h2; exact h2), Lib.hid (by simpa using HR2.out.1), Lib.hid (by simpa using HO2.out), Lib.hid HR2.out.2.1, HR2.out.2.2⟩
    · have hltn1 : 2 ≤ n1 := by have := HI2.out; omega
      obtain ⟨b, o, hAn1, hbn1, hcelln1⟩ := HZ1.out (by rw [HL1.out]; omega)
      subst hAn1
      obtain ⟨a, bb, L', hln1⟩ := two_of (L := L) (by rw [HL1.out]; omega)
      have xa : wr.cell? ⟨b, o + 0, none⟩ = some (.int .i32 a) := by have := hcelln1 0 (by rw [HL1.out]; omega); rwa [hln1] at this
      have xbb : wr.cell? ⟨b, o + 1, none⟩ = some (.int .i32 bb) := by have := hcelln1 1 (by rw [HL1.out]; omega); rwa [hln1] at this
      have xa' : wr.cell? ⟨b, o, none⟩ = some (.int .i32 a) := xa
      have En1 := Lib.hid hln1
      clear hcelln1 hln1
      have tan1 : (0 : Int) < (n1 : Int) := by omega
      have tbn1 : 0 < n1 := by omega
      have tcn1 : (2 : Int) ≤ (c1 : Int) := by omega
      have tdn1 : (2 : Int) ≤ (n1 : Int) := by omega
      have ten1 : (n1 : Int) ≤ (c1 : Int) := by omega
      have tfn1 : ((n1 : Int) == 0) = false := by simp; omega
      by_cases hjr : n2 = 0
      · subst hjr
        have EN0 := Lib.hid (show R = [] from List.length_eq_zero_iff.1 HL2.out)
        have hmM : M.length ≤ 400 := by have := HML.out; omega
        have hnN : N.length ≤ 400 := by have := HNN.out; omega
        have HM0 := Lib.hid (fun (q : World) (h : q.heap = wr.heap) => own_heap HOM.out h)
        have HN0 := Lib.hid (fun (q : World) (h : q.heap = wr.heap) => own_heap HON.out h)
        have HMA := Lib.hid (fun (q : World) (h : q.heap = (wr.alloc (.cells #[.int .u32 lp] 27)).heap) => own_heap (HOM.out.alloc _) h)
        have HNA := Lib.hid (fun (q : World) (h : q.heap = (wr.alloc (.cells #[.int .u32 lp] 27)).heap) => own_heap (HON.out.alloc _) h)
        have HS0 := Lib.hid (fun (q : World) (h : q.heap = wr.heap) => (show B ≤ q.heap.size by rw [h]; exact hBS))
        have HSA := Lib.hid (fun (q : World) (h : q.heap = (wr.alloc (.cells #[.int .u32 lp] 27)).heap) => (show B ≤ q.heap.size by rw [h]; simp; omega))
        have HC0 := Lib.hid (fun (q : World) (h : q.heap = wr.heap) => (show ∀ j u, [Value.int .i32 a, Value.int .i32 bb][j]? = some u → q.cell? ((⟨b, o, none⟩ : Addr).add j) = some u from fun j u hu => by
          rw [Addr.add_lit, World.cell?_of_block (w := wr) (a := ⟨b, o + j, none⟩) (by rw [h])]
          match j, hu with
          | 0, hu => simp at hu; subst hu; exact xa
          | 1, hu => simp at hu; subst hu; exact xbb))
        have HCA := Lib.hid (fun (q : World) (h : q.heap = (wr.alloc (.cells #[.int .u32 lp] 27)).heap) => (show ∀ j u, [Value.int .i32 a, Value.int .i32 bb][j]? = some u → q.cell? ((⟨b, o, none⟩ : Addr).add j) = some u from fun j u hu => by
          rw [World.cell?_of_block (w := wr.alloc (.cells #[.int .u32 lp] 27)) (a := (⟨b, o, none⟩ : Addr).add j) (by rw [h]), Addr.add_lit, World.cell?_alloc_past _ _ _ (by omega), ← Addr.add_lit]
          exact HC0.out wr rfl j u hu))
        have HXA := Lib.hid (fun (q : World) (h : q.heap = (wr.alloc (.cells #[.int .u32 lp] 27)).heap) => (show q.heap[wr.heap.size]? = some (Obj.cells #[Value.int .u32 lp] 27 (0, 0)) by rw [h]; exact blk_new wr (.cells #[.int .u32 lp] 27)))
        have HB0 := Lib.hid (fun (q : World) (h : q.heap = wr.heap) (hb : q.os = wr.os ∧ q.tape = wr.tape ∧ q.output = wr.output) => (show Below B w q from HBX.out.trans ⟨hb.1, hb.2.1, hb.2.2, by rw [h]; exact Nat.le_refl _, fun k _ => by rw [h]⟩))
        have HBA := Lib.hid (fun (q : World) (h : q.heap = (wr.alloc (.cells #[.int .u32 lp] 27)).heap) (hb : q.os = wr.os ∧ q.tape = wr.tape ∧ q.output = wr.output) => (show Below B w q from (HBX.out.alloc hBS (.cells #[.int .u32 lp] 27)).trans ⟨hb.1, hb.2.1, hb.2.2, by rw [h]; exact Nat.le_refl _, fun k _ => by rw [h]⟩))
        obtain ⟨f', hf'⟩ : ∃ f', f = f' + 1 := ⟨f - 1, by have := HFU.out; omega⟩
        subst hf'
        have hstep : spM lp rp (nl + nr) [] [] ls rs = spM lp rp f' (M ++ [a, bb]) (N ++ [lp]) L' [] := by
          rw [HSP.out, En1.out, EN0.out]; rfl
        have HSTEP := Lib.hid hstep; clear hstep
        by_cases hcc : c1 = 2
        · obtain rfl : n1 = 2 := by omega
          subst hcc
          go_wp2_with fail
          go_quiet (fail)
          go_wp2_with fail
          go_region_law (first | (refine step_append_lies _ rfl (.tmp 36) (.tmp 38) 26 rfl B 21 i0 (.int .i32 0) 1 4 (by kernel_rfl) hi0 hz0 hz1 hz2 rfl (by decide) vM M.length (M.map (Value.int .i32)) (by first | (simp [Act.eval]; done) | simp [Act.eval, Act.put]) (HM0.out _ rfl) ⟨b, o, none⟩ 2 2 [.int .i32 a, .int .i32 bb] (by first | (simp [Act.eval]; done) | simp [Act.eval, Act.put]) rfl (HC0.out _ rfl) (by simp [Value.oneCell']) (by omega) (by unfold maxLen; omega) (by omega) (HS0.out _ rfl) _ rfl ?_; intro g1 k1 w1 hown1 hg1 hgg1 hlt1; have R1 := rm_M hg1 (HM0.out _ rfl) (HN0.out _ rfl) (HB0.out _ rfl ⟨rfl, rfl, rfl⟩) (HS0.out _ rfl); have HO1 := Lib.hid hown1; have HR1 := Lib.hid R1; clear hown1 hg1 hgg1 hlt1 R1) | (refine step_append_lies _ rfl (.tmp 36) (.tmp 38) 26 rfl B 21 i0 (.int .i32 0) 1 4 (by kernel_rfl) hi0 hz0 hz1 hz2 rfl (by decide) vM M.length (M.map (Value.int .i32)) (by first | (simp [Act.eval]; done) | simp [Act.eval, Act.put]) (HMA.out _ rfl) ⟨b, o, none⟩ 2 2 [.int .i32 a, .int .i32 bb] (by first | (simp [Act.eval]; done) | simp [Act.eval, Act.put]) rfl (HCA.out _ rfl) (by simp [Value.oneCell']) (by omega) (by unfold maxLen; omega) (by omega) (HSA.out _ rfl) _ rfl ?_; intro g1 k1 w1 hown1 hg1 hgg1 hlt1; have R1 := rm_M hg1 (HMA.out _ rfl) (HNA.out _ rfl) (HBA.out _ rfl ⟨rfl, rfl, rfl⟩) (HSA.out _ rfl); have hX1 := rm_X hg1 (HMA.out _ rfl) (HXA.out _ rfl); have HX1 := Lib.hid hX1; clear hX1; have HO1 := Lib.hid hown1; have HR1 := Lib.hid R1; clear hown1 hg1 hgg1 hlt1 R1) | (refine step_append_lies _ rfl (.tmp 40) (.tmp 42) 29 rfl B 27 j0 (.int .u32 0) 1 4 (by kernel_rfl) hj0 hy0 hy1 hy2 rfl (by decide) vN N.length (N.map (Value.int .u32)) (by first | (simp [Act.eval]; done) | simp [Act.eval, Act.put]) HR1.out.1 ⟨wr.heap.size, 0, none⟩ 1 1 [.int .u32 lp] (by first | (simp [Act.eval]; done) | simp [Act.eval, Act.put]) rfl (World.news_of_block (cs := #[.int .u32 lp]) HX1.out) (by simp [Value.oneCell']) (by omega) (by unfold maxLen; omega) (by omega) HR1.out.2.2 _ rfl ?_; intro g2 k2 w2 hown2 hg2 hgg2 hlt2; have R2 := rm_N hg2 HO1.out HR1.out.1 HR1.out.2.1 HR1.out.2.2; have HO2 := Lib.hid hown2; have HR2 := Lib.hid R2; clear hown2 hg2 hgg2 hlt2 R2) | (refine step_append_lies _ rfl (.tmp 40) (.tmp 42) 29 rfl B 27 j0 (.int .u32 0) 1 4 (by kernel_rfl) hj0 hy0 hy1 hy2 rfl (by decide) vN N.length (N.map (Value.int .u32)) (by first | (simp [Act.eval]; done) | simp [Act.eval, Act.put]) (HR1.out.1.alloc _) ⟨w1.heap.size, 0, none⟩ 1 1 [.int .u32 lp] (by first | (simp [Act.eval]; done) | simp [Act.eval, Act.put]) rfl (World.news_of_block (cs := #[.int .u32 lp]) (blk_new w1 (.cells #[.int .u32 lp] 27))) (by simp [Value.oneCell']) (by omega) (by unfold maxLen; omega) (by omega) (by have := HR1.out.2.2; simp; omega) _ rfl ?_; intro g2 k2 w2 hown2 hg2 hgg2 hlt2; have R2 := rm_N hg2 (HO1.out.alloc _) (HR1.out.1.alloc _) (HR1.out.2.1.alloc HR1.out.2.2 _) (by have := HR1.out.2.2; simp; omega); have HO2 := Lib.hid hown2; have HR2 := Lib.hid R2; clear hown2 hg2 hgg2 hlt2 R2))
          all_goals go_wp2
          all_goals go_roundg g'
          all_goals first
            | omega
            | skip
          all_goals exact ⟨0, _, 0, _, f', (some ⟨b, o, none⟩), _, L', [], M ++ [a, bb], N ++ [lp], _, _, (show L'.length = 2 - 2 by have := HL1.out; rw [En1.out] at this; simp only [List.length_cons] at this; omega), (by rw [← EN0.out]; exact HL2.out), Lib.hid (by first | rfl | (have := HI2.out; omega)), Lib.hid (by first | rfl | exact HJ2.out), by omega, by omega, by omega, by simp, rfl, by omega, by omega, rfl, rfl, Lib.hid (by have := HML.out; rw [List.length_append]; simp only [List.length_cons, List.length_nil]; omega), Lib.hid (by have := HNN.out; rw [List.length_append]; simp only [List.length_cons, List.length_nil]; omega), Lib.hid (by have := HFU.out; omega), HSTEP, (ints_nil (by have := (show L'.length = 2 - 2 by have := HL1.out; rw [En1.out] at this; simp only [List.length_cons] at this; omega); omega)), (by have h3 := ((HZ2.out).keep (fun b0 o0 hb0 => (HR2.out.2.1.cell (p := ⟨b0, o0, none⟩) hb0).trans (HBX.out.cell (p := ⟨b0, o0, none⟩) hb0).symm)); rw [EN0.out] at h3; exact h3), Lib.hid (by simpa using HR2.out.1), Lib.hid (by simpa using HO2.out), Lib.hid HR2.out.2.1, HR2.out.2.2⟩
        · have hz9 : ¬ (c1 : Int) - 2 = 0 := by omega
          have hz8 : ¬ (c1 : Int) = 2 := by omega
          go_wp2_with fail
          go_quiet (fail)
          go_wp2_with fail
          go_region_law (first | (refine step_append_lies _ rfl (.tmp 36) (.tmp 38) 26 rfl B 21 i0 (.int .i32 0) 1 4 (by kernel_rfl) hi0 hz0 hz1 hz2 rfl (by decide) vM M.length (M.map (Value.int .i32)) (by first | (simp [Act.eval]; done) | simp [Act.eval, Act.put]) (HM0.out _ rfl) ⟨b, o, none⟩ 2 c1 [.int .i32 a, .int .i32 bb] (by first | (simp [Act.eval]; done) | simp [Act.eval, Act.put]) rfl (HC0.out _ rfl) (by simp [Value.oneCell']) (by omega) (by unfold maxLen; omega) (by omega) (HS0.out _ rfl) _ rfl ?_; intro g1 k1 w1 hown1 hg1 hgg1 hlt1; have R1 := rm_M hg1 (HM0.out _ rfl) (HN0.out _ rfl) (HB0.out _ rfl ⟨rfl, rfl, rfl⟩) (HS0.out _ rfl); have HO1 := Lib.hid hown1; have HR1 := Lib.hid R1; clear hown1 hg1 hgg1 hlt1 R1) | (refine step_append_lies _ rfl (.tmp 36) (.tmp 38) 26 rfl B 21 i0 (.int .i32 0) 1 4 (by kernel_rfl) hi0 hz0 hz1 hz2 rfl (by decide) vM M.length (M.map (Value.int .i32)) (by first | (simp [Act.eval]; done) | simp [Act.eval, Act.put]) (HMA.out _ rfl) ⟨b, o, none⟩ 2 c1 [.int .i32 a, .int .i32 bb] (by first | (simp [Act.eval]; done) | simp [Act.eval, Act.put]) rfl (HCA.out _ rfl) (by simp [Value.oneCell']) (by omega) (by unfold maxLen; omega) (by omega) (HSA.out _ rfl) _ rfl ?_; intro g1 k1 w1 hown1 hg1 hgg1 hlt1; have R1 := rm_M hg1 (HMA.out _ rfl) (HNA.out _ rfl) (HBA.out _ rfl ⟨rfl, rfl, rfl⟩) (HSA.out _ rfl); have hX1 := rm_X hg1 (HMA.out _ rfl) (HXA.out _ rfl); have HX1 := Lib.hid hX1; clear hX1; have HO1 := Lib.hid hown1; have HR1 := Lib.hid R1; clear hown1 hg1 hgg1 hlt1 R1) | (refine step_append_lies _ rfl (.tmp 40) (.tmp 42) 29 rfl B 27 j0 (.int .u32 0) 1 4 (by kernel_rfl) hj0 hy0 hy1 hy2 rfl (by decide) vN N.length (N.map (Value.int .u32)) (by first | (simp [Act.eval]; done) | simp [Act.eval, Act.put]) HR1.out.1 ⟨wr.heap.size, 0, none⟩ 1 1 [.int .u32 lp] (by first | (simp [Act.eval]; done) | simp [Act.eval, Act.put]) rfl (World.news_of_block (cs := #[.int .u32 lp]) HX1.out) (by simp [Value.oneCell']) (by omega) (by unfold maxLen; omega) (by omega) HR1.out.2.2 _ rfl ?_; intro g2 k2 w2 hown2 hg2 hgg2 hlt2; have R2 := rm_N hg2 HO1.out HR1.out.1 HR1.out.2.1 HR1.out.2.2; have HO2 := Lib.hid hown2; have HR2 := Lib.hid R2; clear hown2 hg2 hgg2 hlt2 R2) | (refine step_append_lies _ rfl (.tmp 40) (.tmp 42) 29 rfl B 27 j0 (.int .u32 0) 1 4 (by kernel_rfl) hj0 hy0 hy1 hy2 rfl (by decide) vN N.length (N.map (Value.int .u32)) (by first | (simp [Act.eval]; done) | simp [Act.eval, Act.put]) (HR1.out.1.alloc _) ⟨w1.heap.size, 0, none⟩ 1 1 [.int .u32 lp] (by first | (simp [Act.eval]; done) | simp [Act.eval, Act.put]) rfl (World.news_of_block (cs := #[.int .u32 lp]) (blk_new w1 (.cells #[.int .u32 lp] 27))) (by simp [Value.oneCell']) (by omega) (by unfold maxLen; omega) (by omega) (by have := HR1.out.2.2; simp; omega) _ rfl ?_; intro g2 k2 w2 hown2 hg2 hgg2 hlt2; have R2 := rm_N hg2 (HO1.out.alloc _) (HR1.out.1.alloc _) (HR1.out.2.1.alloc HR1.out.2.2 _) (by have := HR1.out.2.2; simp; omega); have HO2 := Lib.hid hown2; have HR2 := Lib.hid R2; clear hown2 hg2 hgg2 hlt2 R2))
          all_goals go_wp2
          all_goals go_roundg g'
          all_goals first
            | omega
            | skip
          all_goals exact ⟨n1 - 2, _, c1 - 2, _, f', (some ⟨b, o + 2, none⟩), _, L', [], M ++ [a, bb], N ++ [lp], _, _, (show L'.length = n1 - 2 by have := HL1.out; rw [En1.out] at this; simp only [List.length_cons] at this; omega), (by rw [← EN0.out]; exact HL2.out), Lib.hid (by first | rfl | (have := HI2.out; omega)), Lib.hid (by first | rfl | exact HJ2.out), by omega, by omega, by omega, by simp, rfl, by omega, by omega, rfl, rfl, Lib.hid (by have := HML.out; rw [List.length_append]; simp only [List.length_cons, List.length_nil]; omega), Lib.hid (by have := HNN.out; rw [List.length_append]; simp only [List.length_cons, List.length_nil]; omega), Lib.hid (by have := HFU.out; omega), HSTEP, (by have h2 := ints_drop2 (HZ1.out.keep (fun b0 o0 hb0 => (HR2.out.2.1.cell (p := ⟨b0, o0, none⟩) hb0).trans (HBX.out.cell (p := ⟨b0, o0, none⟩) hb0).symm)); rw [(show L.drop 2 = L' by rw [En1.out]; rfl)] at h2; exact h2), (by have h3 := ((HZ2.out).keep (fun b0 o0 hb0 => (HR2.out.2.1.cell (p := ⟨b0, o0, none⟩) hb0).trans (HBX.out.cell (p := ⟨b0, o0, none⟩) hb0).symm)); rw [EN0.out] at h3; exact h3), Lib.hid (by simpa using HR2.out.1), Lib.hid (by simpa using HO2.out), Lib.hid HR2.out.2.1, HR2.out.2.2⟩
      · have hltn2 : 2 ≤ n2 := by have := HJ2.out; omega
        obtain ⟨rb, ro, hAn2, hbn2, hcelln2⟩ := HZ2.out (by rw [HL2.out]; omega)
        subst hAn2
        obtain ⟨c, d, R', hln2⟩ := two_of (L := R) (by rw [HL2.out]; omega)
        have xc : wr.cell? ⟨rb, ro + 0, none⟩ = some (.int .i32 c) := by have := hcelln2 0 (by rw [HL2.out]; omega); rwa [hln2] at this
        have xd : wr.cell? ⟨rb, ro + 1, none⟩ = some (.int .i32 d) := by have := hcelln2 1 (by rw [HL2.out]; omega); rwa [hln2] at this
        have xc' : wr.cell? ⟨rb, ro, none⟩ = some (.int .i32 c) := xc
        have En2 := Lib.hid hln2
        clear hcelln2 hln2
        have tan2 : (0 : Int) < (n2 : Int) := by omega
        have tbn2 : 0 < n2 := by omega
        have tcn2 : (2 : Int) ≤ (c2 : Int) := by omega
        have tdn2 : (2 : Int) ≤ (n2 : Int) := by omega
        have ten2 : (n2 : Int) ≤ (c2 : Int) := by omega
        have tfn2 : ((n2 : Int) == 0) = false := by simp; omega
        by_cases hac : a < c
        · have dac : decide (a < c) = true := by simpa using hac
          have hmM : M.length ≤ 400 := by have := HML.out; omega
          have hnN : N.length ≤ 400 := by have := HNN.out; omega
          have HM0 := Lib.hid (fun (q : World) (h : q.heap = wr.heap) => own_heap HOM.out h)
          have HN0 := Lib.hid (fun (q : World) (h : q.heap = wr.heap) => own_heap HON.out h)
          have HMA := Lib.hid (fun (q : World) (h : q.heap = (wr.alloc (.cells #[.int .u32 lp] 27)).heap) => own_heap (HOM.out.alloc _) h)
          have HNA := Lib.hid (fun (q : World) (h : q.heap = (wr.alloc (.cells #[.int .u32 lp] 27)).heap) => own_heap (HON.out.alloc _) h)
          have HS0 := Lib.hid (fun (q : World) (h : q.heap = wr.heap) => (show B ≤ q.heap.size by rw [h]; exact hBS))
          have HSA := Lib.hid (fun (q : World) (h : q.heap = (wr.alloc (.cells #[.int .u32 lp] 27)).heap) => (show B ≤ q.heap.size by rw [h]; simp; omega))
          have HC0 := Lib.hid (fun (q : World) (h : q.heap = wr.heap) => (show ∀ j u, [Value.int .i32 a, Value.int .i32 bb][j]? = some u → q.cell? ((⟨b, o, none⟩ : Addr).add j) = some u from fun j u hu => by
            rw [Addr.add_lit, World.cell?_of_block (w := wr) (a := ⟨b, o + j, none⟩) (by rw [h])]
            match j, hu with
            | 0, hu => simp at hu; subst hu; exact xa
            | 1, hu => simp at hu; subst hu; exact xbb))
          have HCA := Lib.hid (fun (q : World) (h : q.heap = (wr.alloc (.cells #[.int .u32 lp] 27)).heap) => (show ∀ j u, [Value.int .i32 a, Value.int .i32 bb][j]? = some u → q.cell? ((⟨b, o, none⟩ : Addr).add j) = some u from fun j u hu => by
            rw [World.cell?_of_block (w := wr.alloc (.cells #[.int .u32 lp] 27)) (a := (⟨b, o, none⟩ : Addr).add j) (by rw [h]), Addr.add_lit, World.cell?_alloc_past _ _ _ (by omega), ← Addr.add_lit]
            exact HC0.out wr rfl j u hu))
          have HXA := Lib.hid (fun (q : World) (h : q.heap = (wr.alloc (.cells #[.int .u32 lp] 27)).heap) => (show q.heap[wr.heap.size]? = some (Obj.cells #[Value.int .u32 lp] 27 (0, 0)) by rw [h]; exact blk_new wr (.cells #[.int .u32 lp] 27)))
          have HB0 := Lib.hid (fun (q : World) (h : q.heap = wr.heap) (hb : q.os = wr.os ∧ q.tape = wr.tape ∧ q.output = wr.output) => (show Below B w q from HBX.out.trans ⟨hb.1, hb.2.1, hb.2.2, by rw [h]; exact Nat.le_refl _, fun k _ => by rw [h]⟩))
          have HBA := Lib.hid (fun (q : World) (h : q.heap = (wr.alloc (.cells #[.int .u32 lp] 27)).heap) (hb : q.os = wr.os ∧ q.tape = wr.tape ∧ q.output = wr.output) => (show Below B w q from (HBX.out.alloc hBS (.cells #[.int .u32 lp] 27)).trans ⟨hb.1, hb.2.1, hb.2.2, by rw [h]; exact Nat.le_refl _, fun k _ => by rw [h]⟩))
          obtain ⟨f', hf'⟩ : ∃ f', f = f' + 1 := ⟨f - 1, by have := HFU.out; omega⟩
          subst hf'
          have hstep : spM lp rp (nl + nr) [] [] ls rs = spM lp rp f' (M ++ [a, bb]) (N ++ [lp]) L' (c :: d :: R') := by
            rw [HSP.out, En1.out, En2.out]
            show (if a < c then _ else _) = _
            rw [if_pos hac]
          have HSTEP := Lib.hid hstep; clear hstep
          by_cases hcc : c1 = 2
          · obtain rfl : n1 = 2 := by omega
            subst hcc
            go_wp2_with fail
            go_quiet (fail)
            go_wp2_with fail
            go_region_law (first | (refine step_append_lies _ rfl (.tmp 36) (.tmp 38) 26 rfl B 21 i0 (.int .i32 0) 1 4 (by kernel_rfl) hi0 hz0 hz1 hz2 rfl (by decide) vM M.length (M.map (Value.int .i32)) (by first | (simp [Act.eval]; done) | simp [Act.eval, Act.put]) (HM0.out _ rfl) ⟨b, o, none⟩ 2 2 [.int .i32 a, .int .i32 bb] (by first | (simp [Act.eval]; done) | simp [Act.eval, Act.put]) rfl (HC0.out _ rfl) (by simp [Value.oneCell']) (by omega) (by unfold maxLen; omega) (by omega) (HS0.out _ rfl) _ rfl ?_; intro g1 k1 w1 hown1 hg1 hgg1 hlt1; have R1 := rm_M hg1 (HM0.out _ rfl) (HN0.out _ rfl) (HB0.out _ rfl ⟨rfl, rfl, rfl⟩) (HS0.out _ rfl); have HO1 := Lib.hid hown1; have HR1 := Lib.hid R1; clear hown1 hg1 hgg1 hlt1 R1) | (refine step_append_lies _ rfl (.tmp 36) (.tmp 38) 26 rfl B 21 i0 (.int .i32 0) 1 4 (by kernel_rfl) hi0 hz0 hz1 hz2 rfl (by decide) vM M.length (M.map (Value.int .i32)) (by first | (simp [Act.eval]; done) | simp [Act.eval, Act.put]) (HMA.out _ rfl) ⟨b, o, none⟩ 2 2 [.int .i32 a, .int .i32 bb] (by first | (simp [Act.eval]; done) | simp [Act.eval, Act.put]) rfl (HCA.out _ rfl) (by simp [Value.oneCell']) (by omega) (by unfold maxLen; omega) (by omega) (HSA.out _ rfl) _ rfl ?_; intro g1 k1 w1 hown1 hg1 hgg1 hlt1; have R1 := rm_M hg1 (HMA.out _ rfl) (HNA.out _ rfl) (HBA.out _ rfl ⟨rfl, rfl, rfl⟩) (HSA.out _ rfl); have hX1 := rm_X hg1 (HMA.out _ rfl) (HXA.out _ rfl); have HX1 := Lib.hid hX1; clear hX1; have HO1 := Lib.hid hown1; have HR1 := Lib.hid R1; clear hown1 hg1 hgg1 hlt1 R1) | (refine step_append_lies _ rfl (.tmp 40) (.tmp 42) 29 rfl B 27 j0 (.int .u32 0) 1 4 (by kernel_rfl) hj0 hy0 hy1 hy2 rfl (by decide) vN N.length (N.map (Value.int .u32)) (by first | (simp [Act.eval]; done) | simp [Act.eval, Act.put]) HR1.out.1 ⟨wr.heap.size, 0, none⟩ 1 1 [.int .u32 lp] (by first | (simp [Act.eval]; done) | simp [Act.eval, Act.put]) rfl (World.news_of_block (cs := #[.int .u32 lp]) HX1.out) (by simp [Value.oneCell']) (by omega) (by unfold maxLen; omega) (by omega) HR1.out.2.2 _ rfl ?_; intro g2 k2 w2 hown2 hg2 hgg2 hlt2; have R2 := rm_N hg2 HO1.out HR1.out.1 HR1.out.2.1 HR1.out.2.2; have HO2 := Lib.hid hown2; have HR2 := Lib.hid R2; clear hown2 hg2 hgg2 hlt2 R2) | (refine step_append_lies _ rfl (.tmp 40) (.tmp 42) 29 rfl B 27 j0 (.int .u32 0) 1 4 (by kernel_rfl) hj0 hy0 hy1 hy2 rfl (by decide) vN N.length (N.map (Value.int .u32)) (by first | (simp [Act.eval]; done) | simp [Act.eval, Act.put]) (HR1.out.1.alloc _) ⟨w1.heap.size, 0, none⟩ 1 1 [.int .u32 lp] (by first | (simp [Act.eval]; done) | simp [Act.eval, Act.put]) rfl (World.news_of_block (cs := #[.int .u32 lp]) (blk_new w1 (.cells #[.int .u32 lp] 27))) (by simp [Value.oneCell']) (by omega) (by unfold maxLen; omega) (by omega) (by have := HR1.out.2.2; simp; omega) _ rfl ?_; intro g2 k2 w2 hown2 hg2 hgg2 hlt2; have R2 := rm_N hg2 (HO1.out.alloc _) (HR1.out.1.alloc _) (HR1.out.2.1.alloc HR1.out.2.2 _) (by have := HR1.out.2.2; simp; omega); have HO2 := Lib.hid hown2; have HR2 := Lib.hid R2; clear hown2 hg2 hgg2 hlt2 R2))
            all_goals go_wp2
            all_goals go_roundg g'
            all_goals first
              | omega
              | skip
            all_goals exact ⟨0, _, 0, _, f', (some ⟨b, o, none⟩), _, L', (c :: d :: R'), M ++ [a, bb], N ++ [lp], _, _, (show L'.length = 2 - 2 by have := HL1.out; rw [En1.out] at this; simp only [List.length_cons] at this; omega), (by rw [← En2.out]; exact HL2.out), Lib.hid (by first | rfl | (have := HI2.out; omega)), Lib.hid (by first | rfl | exact HJ2.out), by omega, by omega, by omega, by simp, rfl, by omega, by omega, rfl, rfl, Lib.hid (by have := HML.out; rw [List.length_append]; simp only [List.length_cons, List.length_nil]; omega), Lib.hid (by have := HNN.out; rw [List.length_append]; simp only [List.length_cons, List.length_nil]; omega), Lib.hid (by have := HFU.out; omega), HSTEP, (ints_nil (by have := (show L'.length = 2 - 2 by have := HL1.out; rw [En1.out] at this; simp only [List.length_cons] at this; omega); omega)), (by have h3 := ((HZ2.out).keep (fun b0 o0 hb0 => (HR2.out.2.1.cell (p := ⟨b0, o0, none⟩) hb0).trans (HBX.out.cell (p := ⟨b0, o0, none⟩) hb0).symm)); rw [En2.out] at h3; exact h3), Lib.hid (by simpa using HR2.out.1), Lib.hid (by simpa using HO2.out), Lib.hid HR2.out.2.1, HR2.out.2.2⟩
          · have hz9 : ¬ (c1 : Int) - 2 = 0 := by omega
            have hz8 : ¬ (c1 : Int) = 2 := by omega
            go_wp2_with fail
            go_quiet (fail)
            go_wp2_with fail
            go_region_law (first | (refine step_append_lies _ rfl (.tmp 36) (.tmp 38) 26 rfl B 21 i0 (.int .i32 0) 1 4 (by kernel_rfl) hi0 hz0 hz1 hz2 rfl (by decide) vM M.length (M.map (Value.int .i32)) (by first | (simp [Act.eval]; done) | simp [Act.eval, Act.put]) (HM0.out _ rfl) ⟨b, o, none⟩ 2 c1 [.int .i32 a, .int .i32 bb] (by first | (simp [Act.eval]; done) | simp [Act.eval, Act.put]) rfl (HC0.out _ rfl) (by simp [Value.oneCell']) (by omega) (by unfold maxLen; omega) (by omega) (HS0.out _ rfl) _ rfl ?_; intro g1 k1 w1 hown1 hg1 hgg1 hlt1; have R1 := rm_M hg1 (HM0.out _ rfl) (HN0.out _ rfl) (HB0.out _ rfl ⟨rfl, rfl, rfl⟩) (HS0.out _ rfl); have HO1 := Lib.hid hown1; have HR1 := Lib.hid R1; clear hown1 hg1 hgg1 hlt1 R1) | (refine step_append_lies _ rfl (.tmp 36) (.tmp 38) 26 rfl B 21 i0 (.int .i32 0) 1 4 (by kernel_rfl) hi0 hz0 hz1 hz2 rfl (by decide) vM M.length (M.map (Value.int .i32)) (by first | (simp [Act.eval]; done) | simp [Act.eval, Act.put]) (HMA.out _ rfl) ⟨b, o, none⟩ 2 c1 [.int .i32 a, .int .i32 bb] (by first | (simp [Act.eval]; done) | simp [Act.eval, Act.put]) rfl (HCA.out _ rfl) (by simp [Value.oneCell']) (by omega) (by unfold maxLen; omega) (by omega) (HSA.out _ rfl) _ rfl ?_; intro g1 k1 w1 hown1 hg1 hgg1 hlt1; have R1 := rm_M hg1 (HMA.out _ rfl) (HNA.out _ rfl) (HBA.out _ rfl ⟨rfl, rfl, rfl⟩) (HSA.out _ rfl); have hX1 := rm_X hg1 (HMA.out _ rfl) (HXA.out _ rfl); have HX1 := Lib.hid hX1; clear hX1; have HO1 := Lib.hid hown1; have HR1 := Lib.hid R1; clear hown1 hg1 hgg1 hlt1 R1) | (refine step_append_lies _ rfl (.tmp 40) (.tmp 42) 29 rfl B 27 j0 (.int .u32 0) 1 4 (by kernel_rfl) hj0 hy0 hy1 hy2 rfl (by decide) vN N.length (N.map (Value.int .u32)) (by first | (simp [Act.eval]; done) | simp [Act.eval, Act.put]) HR1.out.1 ⟨wr.heap.size, 0, none⟩ 1 1 [.int .u32 lp] (by first | (simp [Act.eval]; done) | simp [Act.eval, Act.put]) rfl (World.news_of_block (cs := #[.int .u32 lp]) HX1.out) (by simp [Value.oneCell']) (by omega) (by unfold maxLen; omega) (by omega) HR1.out.2.2 _ rfl ?_; intro g2 k2 w2 hown2 hg2 hgg2 hlt2; have R2 := rm_N hg2 HO1.out HR1.out.1 HR1.out.2.1 HR1.out.2.2; have HO2 := Lib.hid hown2; have HR2 := Lib.hid R2; clear hown2 hg2 hgg2 hlt2 R2) | (refine step_append_lies _ rfl (.tmp 40) (.tmp 42) 29 rfl B 27 j0 (.int .u32 0) 1 4 (by kernel_rfl) hj0 hy0 hy1 hy2 rfl (by decide) vN N.length (N.map (Value.int .u32)) (by first | (simp [Act.eval]; done) | simp [Act.eval, Act.put]) (HR1.out.1.alloc _) ⟨w1.heap.size, 0, none⟩ 1 1 [.int .u32 lp] (by first | (simp [Act.eval]; done) | simp [Act.eval, Act.put]) rfl (World.news_of_block (cs := #[.int .u32 lp]) (blk_new w1 (.cells #[.int .u32 lp] 27))) (by simp [Value.oneCell']) (by omega) (by unfold maxLen; omega) (by omega) (by have := HR1.out.2.2; simp; omega) _ rfl ?_; intro g2 k2 w2 hown2 hg2 hgg2 hlt2; have R2 := rm_N hg2 (HO1.out.alloc _) (HR1.out.1.alloc _) (HR1.out.2.1.alloc HR1.out.2.2 _) (by have := HR1.out.2.2; simp; omega); have HO2 := Lib.hid hown2; have HR2 := Lib.hid R2; clear hown2 hg2 hgg2 hlt2 R2))
            all_goals go_wp2
            all_goals go_roundg g'
            all_goals first
              | omega
              | skip
            all_goals exact ⟨n1 - 2, _, c1 - 2, _, f', (some ⟨b, o + 2, none⟩), _, L', (c :: d :: R'), M ++ [a, bb], N ++ [lp], _, _, (show L'.length = n1 - 2 by have := HL1.out; rw [En1.out] at this; simp only [List.length_cons] at this; omega), (by rw [← En2.out]; exact HL2.out), Lib.hid (by first | rfl | (have := HI2.out; omega)), Lib.hid (by first | rfl | exact HJ2.out), by omega, by omega, by omega, by simp, rfl, by omega, by omega, rfl, rfl, Lib.hid (by have := HML.out; rw [List.length_append]; simp only [List.length_cons, List.length_nil]; omega), Lib.hid (by have := HNN.out; rw [List.length_append]; simp only [List.length_cons, List.length_nil]; omega), Lib.hid (by have := HFU.out; omega), HSTEP, (by have h2 := ints_drop2 (HZ1.out.keep (fun b0 o0 hb0 => (HR2.out.2.1.cell (p := ⟨b0, o0, none⟩) hb0).trans (HBX.out.cell (p := ⟨b0, o0, none⟩) hb0).symm)); rw [(show L.drop 2 = L' by rw [En1.out]; rfl)] at h2; exact h2), (by have h3 := ((HZ2.out).keep (fun b0 o0 hb0 => (HR2.out.2.1.cell (p := ⟨b0, o0, none⟩) hb0).trans (HBX.out.cell (p := ⟨b0, o0, none⟩) hb0).symm)); rw [En2.out] at h3; exact h3), Lib.hid (by simpa using HR2.out.1), Lib.hid (by simpa using HO2.out), Lib.hid HR2.out.2.1, HR2.out.2.2⟩
        · have dac : decide (a < c) = false := by simpa using hac
          have hmM : M.length ≤ 400 := by have := HML.out; omega
          have hnN : N.length ≤ 400 := by have := HNN.out; omega
          have HM0 := Lib.hid (fun (q : World) (h : q.heap = wr.heap) => own_heap HOM.out h)
          have HN0 := Lib.hid (fun (q : World) (h : q.heap = wr.heap) => own_heap HON.out h)
          have HMA := Lib.hid (fun (q : World) (h : q.heap = (wr.alloc (.cells #[.int .u32 rp] 27)).heap) => own_heap (HOM.out.alloc _) h)
          have HNA := Lib.hid (fun (q : World) (h : q.heap = (wr.alloc (.cells #[.int .u32 rp] 27)).heap) => own_heap (HON.out.alloc _) h)
          have HS0 := Lib.hid (fun (q : World) (h : q.heap = wr.heap) => (show B ≤ q.heap.size by rw [h]; exact hBS))
          have HSA := Lib.hid (fun (q : World) (h : q.heap = (wr.alloc (.cells #[.int .u32 rp] 27)).heap) => (show B ≤ q.heap.size by rw [h]; simp; omega))
          have HC0 := Lib.hid (fun (q : World) (h : q.heap = wr.heap) => (show ∀ j u, [Value.int .i32 c, Value.int .i32 d][j]? = some u → q.cell? ((⟨rb, ro, none⟩ : Addr).add j) = some u from fun j u hu => by
            rw [Addr.add_lit, World.cell?_of_block (w := wr) (a := ⟨rb, ro + j, none⟩) (by rw [h])]
            match j, hu with
            | 0, hu => simp at hu; subst hu; exact xc
            | 1, hu => simp at hu; subst hu; exact xd))
          have HCA := Lib.hid (fun (q : World) (h : q.heap = (wr.alloc (.cells #[.int .u32 rp] 27)).heap) => (show ∀ j u, [Value.int .i32 c, Value.int .i32 d][j]? = some u → q.cell? ((⟨rb, ro, none⟩ : Addr).add j) = some u from fun j u hu => by
            rw [World.cell?_of_block (w := wr.alloc (.cells #[.int .u32 rp] 27)) (a := (⟨rb, ro, none⟩ : Addr).add j) (by rw [h]), Addr.add_lit, World.cell?_alloc_past _ _ _ (by omega), ← Addr.add_lit]
            exact HC0.out wr rfl j u hu))
          have HXA := Lib.hid (fun (q : World) (h : q.heap = (wr.alloc (.cells #[.int .u32 rp] 27)).heap) => (show q.heap[wr.heap.size]? = some (Obj.cells #[Value.int .u32 rp] 27 (0, 0)) by rw [h]; exact blk_new wr (.cells #[.int .u32 rp] 27)))
          have HB0 := Lib.hid (fun (q : World) (h : q.heap = wr.heap) (hb : q.os = wr.os ∧ q.tape = wr.tape ∧ q.output = wr.output) => (show Below B w q from HBX.out.trans ⟨hb.1, hb.2.1, hb.2.2, by rw [h]; exact Nat.le_refl _, fun k _ => by rw [h]⟩))
          have HBA := Lib.hid (fun (q : World) (h : q.heap = (wr.alloc (.cells #[.int .u32 rp] 27)).heap) (hb : q.os = wr.os ∧ q.tape = wr.tape ∧ q.output = wr.output) => (show Below B w q from (HBX.out.alloc hBS (.cells #[.int .u32 rp] 27)).trans ⟨hb.1, hb.2.1, hb.2.2, by rw [h]; exact Nat.le_refl _, fun k _ => by rw [h]⟩))
          obtain ⟨f', hf'⟩ : ∃ f', f = f' + 1 := ⟨f - 1, by have := HFU.out; omega⟩
          subst hf'
          have hstep : spM lp rp (nl + nr) [] [] ls rs = spM lp rp f' (M ++ [c, d]) (N ++ [rp]) (a :: bb :: L') R' := by
            rw [HSP.out, En1.out, En2.out]
            show (if a < c then _ else _) = _
            rw [if_neg hac]
          have HSTEP := Lib.hid hstep; clear hstep
          by_cases hcc : c2 = 2
          · obtain rfl : n2 = 2 := by omega
            subst hcc
            go_wp2_with fail
            go_quiet (fail)
            go_wp2_with fail
            go_region_law (first | (refine step_append_lies _ rfl (.tmp 46) (.tmp 48) 26 rfl B 21 i0 (.int .i32 0) 1 4 (by kernel_rfl) hi0 hz0 hz1 hz2 rfl (by decide) vM M.length (M.map (Value.int .i32)) (by first | (simp [Act.eval]; done) | simp [Act.eval, Act.put]) (HM0.out _ rfl) ⟨rb, ro, none⟩ 2 2 [.int .i32 c, .int .i32 d] (by first | (simp [Act.eval]; done) | simp [Act.eval, Act.put]) rfl (HC0.out _ rfl) (by simp [Value.oneCell']) (by omega) (by unfold maxLen; omega) (by omega) (HS0.out _ rfl) _ rfl ?_; intro g1 k1 w1 hown1 hg1 hgg1 hlt1; have R1 := rm_M hg1 (HM0.out _ rfl) (HN0.out _ rfl) (HB0.out _ rfl ⟨rfl, rfl, rfl⟩) (HS0.out _ rfl); have HO1 := Lib.hid hown1; have HR1 := Lib.hid R1; clear hown1 hg1 hgg1 hlt1 R1) | (refine step_append_lies _ rfl (.tmp 46) (.tmp 48) 26 rfl B 21 i0 (.int .i32 0) 1 4 (by kernel_rfl) hi0 hz0 hz1 hz2 rfl (by decide) vM M.length (M.map (Value.int .i32)) (by first | (simp [Act.eval]; done) | simp [Act.eval, Act.put]) (HMA.out _ rfl) ⟨rb, ro, none⟩ 2 2 [.int .i32 c, .int .i32 d] (by first | (simp [Act.eval]; done) | simp [Act.eval, Act.put]) rfl (HCA.out _ rfl) (by simp [Value.oneCell']) (by omega) (by unfold maxLen; omega) (by omega) (HSA.out _ rfl) _ rfl ?_; intro g1 k1 w1 hown1 hg1 hgg1 hlt1; have R1 := rm_M hg1 (HMA.out _ rfl) (HNA.out _ rfl) (HBA.out _ rfl ⟨rfl, rfl, rfl⟩) (HSA.out _ rfl); have hX1 := rm_X hg1 (HMA.out _ rfl) (HXA.out _ rfl); have HX1 := Lib.hid hX1; clear hX1; have HO1 := Lib.hid hown1; have HR1 := Lib.hid R1; clear hown1 hg1 hgg1 hlt1 R1) | (refine step_append_lies _ rfl (.tmp 50) (.tmp 52) 29 rfl B 27 j0 (.int .u32 0) 1 4 (by kernel_rfl) hj0 hy0 hy1 hy2 rfl (by decide) vN N.length (N.map (Value.int .u32)) (by first | (simp [Act.eval]; done) | simp [Act.eval, Act.put]) HR1.out.1 ⟨wr.heap.size, 0, none⟩ 1 1 [.int .u32 rp] (by first | (simp [Act.eval]; done) | simp [Act.eval, Act.put]) rfl (World.news_of_block (cs := #[.int .u32 rp]) HX1.out) (by simp [Value.oneCell']) (by omega) (by unfold maxLen; omega) (by omega) HR1.out.2.2 _ rfl ?_; intro g2 k2 w2 hown2 hg2 hgg2 hlt2; have R2 := rm_N hg2 HO1.out HR1.out.1 HR1.out.2.1 HR1.out.2.2; have HO2 := Lib.hid hown2; have HR2 := Lib.hid R2; clear hown2 hg2 hgg2 hlt2 R2) | (refine step_append_lies _ rfl (.tmp 50) (.tmp 52) 29 rfl B 27 j0 (.int .u32 0) 1 4 (by kernel_rfl) hj0 hy0 hy1 hy2 rfl (by decide) vN N.length (N.map (Value.int .u32)) (by first | (simp [Act.eval]; done) | simp [Act.eval, Act.put]) (HR1.out.1.alloc _) ⟨w1.heap.size, 0, none⟩ 1 1 [.int .u32 rp] (by first | (simp [Act.eval]; done) | simp [Act.eval, Act.put]) rfl (World.news_of_block (cs := #[.int .u32 rp]) (blk_new w1 (.cells #[.int .u32 rp] 27))) (by simp [Value.oneCell']) (by omega) (by unfold maxLen; omega) (by omega) (by have := HR1.out.2.2; simp; omega) _ rfl ?_; intro g2 k2 w2 hown2 hg2 hgg2 hlt2; have R2 := rm_N hg2 (HO1.out.alloc _) (HR1.out.1.alloc _) (HR1.out.2.1.alloc HR1.out.2.2 _) (by have := HR1.out.2.2; simp; omega); have HO2 := Lib.hid hown2; have HR2 := Lib.hid R2; clear hown2 hg2 hgg2 hlt2 R2))
            all_goals go_wp2
            all_goals go_roundg g'
            all_goals first
              | omega
              | skip
            all_goals exact ⟨_, 0, _, 0, f', _, (some ⟨rb, ro, none⟩), (a :: bb :: L'), R', M ++ [c, d], N ++ [rp], _, _, (by rw [← En1.out]; exact HL1.out), (show R'.length = 2 - 2 by have := HL2.out; rw [En2.out] at this; simp only [List.length_cons] at this; omega), Lib.hid (by first | rfl | exact HI2.out), Lib.hid (by first | rfl | (have := HJ2.out; omega)), by omega, by omega, by omega, rfl, by simp, by omega, by omega, rfl, rfl, Lib.hid (by have := HML.out; rw [List.length_append]; simp only [List.length_cons, List.length_nil]; omega), Lib.hid (by have := HNN.out; rw [List.length_append]; simp only [List.length_cons, List.length_nil]; omega), Lib.hid (by have := HFU.out; omega), HSTEP, (by have h3 := ((HZ1.out).keep (fun b0 o0 hb0 => (HR2.out.2.1.cell (p := ⟨b0, o0, none⟩) hb0).trans (HBX.out.cell (p := ⟨b0, o0, none⟩) hb0).symm)); rw [En1.out] at h3; exact h3), (ints_nil (by have := (show R'.length = 2 - 2 by have := HL2.out; rw [En2.out] at this; simp only [List.length_cons] at this; omega); omega)), Lib.hid (by simpa using HR2.out.1), Lib.hid (by simpa using HO2.out), Lib.hid HR2.out.2.1, HR2.out.2.2⟩
          · have hz9 : ¬ (c2 : Int) - 2 = 0 := by omega
            have hz8 : ¬ (c2 : Int) = 2 := by omega
            go_wp2_with fail
            go_quiet (fail)
            go_wp2_with fail
            go_region_law (first | (refine step_append_lies _ rfl (.tmp 46) (.tmp 48) 26 rfl B 21 i0 (.int .i32 0) 1 4 (by kernel_rfl) hi0 hz0 hz1 hz2 rfl (by decide) vM M.length (M.map (Value.int .i32)) (by first | (simp [Act.eval]; done) | simp [Act.eval, Act.put]) (HM0.out _ rfl) ⟨rb, ro, none⟩ 2 c2 [.int .i32 c, .int .i32 d] (by first | (simp [Act.eval]; done) | simp [Act.eval, Act.put]) rfl (HC0.out _ rfl) (by simp [Value.oneCell']) (by omega) (by unfold maxLen; omega) (by omega) (HS0.out _ rfl) _ rfl ?_; intro g1 k1 w1 hown1 hg1 hgg1 hlt1; have R1 := rm_M hg1 (HM0.out _ rfl) (HN0.out _ rfl) (HB0.out _ rfl ⟨rfl, rfl, rfl⟩) (HS0.out _ rfl); have HO1 := Lib.hid hown1; have HR1 := Lib.hid R1; clear hown1 hg1 hgg1 hlt1 R1) | (refine step_append_lies _ rfl (.tmp 46) (.tmp 48) 26 rfl B 21 i0 (.int .i32 0) 1 4 (by kernel_rfl) hi0 hz0 hz1 hz2 rfl (by decide) vM M.length (M.map (Value.int .i32)) (by first | (simp [Act.eval]; done) | simp [Act.eval, Act.put]) (HMA.out _ rfl) ⟨rb, ro, none⟩ 2 c2 [.int .i32 c, .int .i32 d] (by first | (simp [Act.eval]; done) | simp [Act.eval, Act.put]) rfl (HCA.out _ rfl) (by simp [Value.oneCell']) (by omega) (by unfold maxLen; omega) (by omega) (HSA.out _ rfl) _ rfl ?_; intro g1 k1 w1 hown1 hg1 hgg1 hlt1; have R1 := rm_M hg1 (HMA.out _ rfl) (HNA.out _ rfl) (HBA.out _ rfl ⟨rfl, rfl, rfl⟩) (HSA.out _ rfl); have hX1 := rm_X hg1 (HMA.out _ rfl) (HXA.out _ rfl); have HX1 := Lib.hid hX1; clear hX1; have HO1 := Lib.hid hown1; have HR1 := Lib.hid R1; clear hown1 hg1 hgg1 hlt1 R1) | (refine step_append_lies _ rfl (.tmp 50) (.tmp 52) 29 rfl B 27 j0 (.int .u32 0) 1 4 (by kernel_rfl) hj0 hy0 hy1 hy2 rfl (by decide) vN N.length (N.map (Value.int .u32)) (by first | (simp [Act.eval]; done) | simp [Act.eval, Act.put]) HR1.out.1 ⟨wr.heap.size, 0, none⟩ 1 1 [.int .u32 rp] (by first | (simp [Act.eval]; done) | simp [Act.eval, Act.put]) rfl (World.news_of_block (cs := #[.int .u32 rp]) HX1.out) (by simp [Value.oneCell']) (by omega) (by unfold maxLen; omega) (by omega) HR1.out.2.2 _ rfl ?_; intro g2 k2 w2 hown2 hg2 hgg2 hlt2; have R2 := rm_N hg2 HO1.out HR1.out.1 HR1.out.2.1 HR1.out.2.2; have HO2 := Lib.hid hown2; have HR2 := Lib.hid R2; clear hown2 hg2 hgg2 hlt2 R2) | (refine step_append_lies _ rfl (.tmp 50) (.tmp 52) 29 rfl B 27 j0 (.int .u32 0) 1 4 (by kernel_rfl) hj0 hy0 hy1 hy2 rfl (by decide) vN N.length (N.map (Value.int .u32)) (by first | (simp [Act.eval]; done) | simp [Act.eval, Act.put]) (HR1.out.1.alloc _) ⟨w1.heap.size, 0, none⟩ 1 1 [.int .u32 rp] (by first | (simp [Act.eval]; done) | simp [Act.eval, Act.put]) rfl (World.news_of_block (cs := #[.int .u32 rp]) (blk_new w1 (.cells #[.int .u32 rp] 27))) (by simp [Value.oneCell']) (by omega) (by unfold maxLen; omega) (by omega) (by have := HR1.out.2.2; simp; omega) _ rfl ?_; intro g2 k2 w2 hown2 hg2 hgg2 hlt2; have R2 := rm_N hg2 (HO1.out.alloc _) (HR1.out.1.alloc _) (HR1.out.2.1.alloc HR1.out.2.2 _) (by have := HR1.out.2.2; simp; omega); have HO2 := Lib.hid hown2; have HR2 := Lib.hid R2; clear hown2 hg2 hgg2 hlt2 R2))
            all_goals go_wp2
            all_goals go_roundg g'
            all_goals first
              | omega
              | skip
            all_goals exact ⟨_, n2 - 2, _, c2 - 2, f', _, (some ⟨rb, ro + 2, none⟩), (a :: bb :: L'), R', M ++ [c, d], N ++ [rp], _, _, (by rw [← En1.out]; exact HL1.out), (show R'.length = n2 - 2 by have := HL2.out; rw [En2.out] at this; simp only [List.length_cons] at this; omega), Lib.hid (by first | rfl | exact HI2.out), Lib.hid (by first | rfl | (have := HJ2.out; omega)), by omega, by omega, by omega, rfl, by simp, by omega, by omega, rfl, rfl, Lib.hid (by have := HML.out; rw [List.length_append]; simp only [List.length_cons, List.length_nil]; omega), Lib.hid (by have := HNN.out; rw [List.length_append]; simp only [List.length_cons, List.length_nil]; omega), Lib.hid (by have := HFU.out; omega), HSTEP, (by have h3 := ((HZ1.out).keep (fun b0 o0 hb0 => (HR2.out.2.1.cell (p := ⟨b0, o0, none⟩) hb0).trans (HBX.out.cell (p := ⟨b0, o0, none⟩) hb0).symm)); rw [En1.out] at h3; exact h3), (by have h2 := ints_drop2 (HZ2.out.keep (fun b0 o0 hb0 => (HR2.out.2.1.cell (p := ⟨b0, o0, none⟩) hb0).trans (HBX.out.cell (p := ⟨b0, o0, none⟩) hb0).symm)); rw [(show R.drop 2 = R' by rw [En2.out]; rfl)] at h2; exact h2), Lib.hid (by simpa using HR2.out.1), Lib.hid (by simpa using HO2.out), Lib.hid HR2.out.2.1, HR2.out.2.2⟩
end
end Go.Proofs.Ytholpemmakdglaa.Mem
