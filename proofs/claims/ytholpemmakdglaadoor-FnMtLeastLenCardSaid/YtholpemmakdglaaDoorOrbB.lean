/- The orbit of a character under SimpleFold: it comes back in at most four steps; the functions that walk along it. The least character of an orbit, by the package's inner function and by the reference's list of the orbit. -/
import Derived.Test.YtholpemmakdglaaDoorSFoldB
import Derived.Test.YtholpemmakdglaaDoorAA
import Derived.Deep.RegionWith
namespace Go.Proofs.YtholpemmakdglaaDoor.Fold
open Go.RowKit Go.Lib
set_option linter.unusedVariables false
def itF : Nat → Int → Int
  | 0, r => r
  | k + 1, r => SF (itF k r)
/-- The least of the first k characters of the orbit, the character itself at least. -/
def minU : Nat → Int → Int
  | 0, r => r
  | k + 1, r => min (minU k r) (itF k r)
structure Per (r : Int) (p : Nat) : Prop where
  pos : 1 ≤ p
  le : p ≤ 4
  back : itF p r = r
  first : ∀ j, 1 ≤ j → j < p → itF j r ≠ r
  lo : ∀ j, 0 ≤ itF j r
  hi : ∀ j, itF j r ≤ 1114111
  far : r < 65 ∨ 125251 < r → p = 1
theorem itF_add (r : Int) (j : Nat) : ∀ k, itF (k + j) r = itF k (itF j r)
  | 0 => by simp [itF]
  | k + 1 => by rw [show k + 1 + j = (k + j) + 1 by omega]; simp [itF, itF_add r j k]
theorem SF_in (r : Int) (h0 : 0 ≤ r) (h1 : r ≤ 1114111) : 0 ≤ SF r ∧ SF r ≤ 1114111 := by
  have h := chk_all r h0 h1
  unfold chk okN at h
  simp only [Bool.and_eq_true, decide_eq_true_eq] at h
  exact h.1
theorem itF_in (r : Int) (h0 : 0 ≤ r) (h1 : r ≤ 1114111) : ∀ j, 0 ≤ itF j r ∧ itF j r ≤ 1114111
  | 0 => ⟨h0, h1⟩
  | j + 1 => SF_in _ (itF_in r h0 h1 j).1 (itF_in r h0 h1 j).2
theorem per_any (r : Int) (h0 : 0 ≤ r) (h1 : r ≤ 1114111) : ∃ p, Per r p := by
  have h := chk_all r h0 h1
  unfold chk at h
  simp only [Bool.and_eq_true, Bool.or_eq_true, decide_eq_true_eq] at h
  have hin := itF_in r h0 h1
  by_cases a1 : itF 1 r = r
  · exact ⟨1, by omega, by omega, a1, fun j _ _ => (by omega), fun j => (hin j).1, fun j => (hin j).2, fun _ => rfl⟩
  have hfar : 65 ≤ r ∧ r ≤ 125251 := by
    rcases h.2 with h | h
    · exact absurd h a1
    · exact h.1
  have hf : (r < 65 ∨ 125251 < r) → False := fun hh => by omega
  by_cases a2 : itF 2 r = r
  · exact ⟨2, by omega, by omega, a2, fun j _ _ => (by have e : j = 1 := (by omega); rw [e]; exact a1), fun j => (hin j).1, fun j => (hin j).2, fun hh => (hf hh).elim⟩
  by_cases a3 : itF 3 r = r
  · refine ⟨3, by omega, by omega, a3, fun j _ _ => ?_, fun j => (hin j).1, fun j => (hin j).2, fun hh => (hf hh).elim⟩
    rcases (show j = 1 ∨ j = 2 by omega) with rfl | rfl
    · exact a1
    · exact a2
  have a4 : itF 4 r = r := by
    rcases h.2 with h | h
    · exact absurd h a1
    rcases h.2.2 with h | h
    · exact absurd h a2
    rcases h.2 with h | h
    · exact absurd h a3
    exact h.2
  refine ⟨4, by omega, by omega, a4, fun j _ _ => ?_, fun j => (hin j).1, fun j => (hin j).2, fun hh => (hf hh).elim⟩
  rcases (show j = 1 ∨ j = 2 ∨ j = 3 by omega) with rfl | rfl | rfl
  · exact a1
  · exact a2
  · exact a3
theorem minU_in (r : Int) (h0 : 0 ≤ r) (h1 : r ≤ 1114111) : ∀ j, 0 ≤ minU j r ∧ minU j r ≤ 1114111
  | 0 => ⟨h0, h1⟩
  | j + 1 => by
    have := minU_in r h0 h1 j
    have := itF_in r h0 h1 j
    simp only [minU]; omega
end Go.Proofs.YtholpemmakdglaaDoor.Fold
namespace Go.Proofs.YtholpemmakdglaaDoor.Fold
open Go.RowKit Go.Lib Mem
set_option linter.unusedVariables false
set_option maxRecDepth 100000 in
set_option maxHeartbeats 1000000 in
theorem minFold_far (r : Int) (w : World) (h : r < 65 ∨ 125251 < r) :
    Calls Tryd.prog 45 #[.int .i32 r] w fun e w' => e = .returned (.int .i32 r) ∧ ∃ q, w' = w.drewN q := by
  by_cases h1 : r < 65
  · clear h
    go_enter Tryd.func45, Tryd.ntmps45
    go_wp2
    go_ret
    exact ⟨rfl, 0, rfl⟩
  · have h2 : 125251 < r := by omega
    clear h
    go_enter Tryd.func45, Tryd.ntmps45
    go_wp2
    go_ret
    exact ⟨rfl, 0, rfl⟩
set_option maxRecDepth 100000 in
set_option maxHeartbeats 1000000 in
theorem minFold_near (r : Int) (w : World) {B p : Nat} (hF : FoldV B w) (h1 : 65 ≤ r) (h2 : r ≤ 125251) (hp : Per r p) :
    Calls Tryd.prog 45 #[.int .i32 r] w fun e w' => e = .returned (.int .i32 (minU p r)) ∧ ∃ q, w' = w.drewN q := by
  have d1 : decide (r < 65) = false := by simp; omega
  have d2 : decide (125251 < r) = false := by simp; omega
  have HF := Lib.hid hF; clear hF
  have HP := Lib.hid hp; clear hp
  go_enter Tryd.func45, Tryd.ntmps45
  go_wp2_with (go_at_call 44; refine (sf_any _ _ HF.out).mono ?_; rintro e w1 ⟨rfl, q1, rfl⟩)
  go_loopg [0, 3] (p + 1) (fun g s0 s3 wx => ∃ k q : Nat, 1 ≤ k ∧ k ≤ p ∧ p - k < g ∧ s0 = .int .i32 (itF k r) ∧ s3 = .int .i32 (minU k r) ∧ wx = w.drewN q)
  case atStart => exact ⟨1, q1, by omega, HP.out.pos, by omega, rfl, by simp [minU, itF], rfl⟩
  case round =>
    obtain ⟨k, q, hk1, hk2, hg, rfl, rfl, rfl⟩ := hrel
    obtain ⟨g', rfl⟩ : ∃ g', gk = g' + 1 := ⟨gk - 1, by omega⟩
    by_cases hlt : k < p
    · have hne : (itF k r != r) = true := by simpa using HP.out.first k hk1 hlt
      go_wp2_with (go_at_call 44; refine (sf_any _ _ (HF.out.drewN q)).mono ?_; rintro e w1 ⟨rfl, q2, rfl⟩)
      all_goals
        go_roundg g'
        case rel => exact ⟨k + 1, q + q2, by omega, by omega, by omega, rfl, by simp only [minU]; congr 1; omega, rfl⟩
        case measure => omega
    · obtain rfl : k = p := by omega
      have hne : (itF k r != r) = false := by simpa using HP.out.back
      go_wp2
      go_ret
      exact ⟨rfl, q, rfl⟩
theorem minFold_any (r : Int) (w : World) {B p : Nat} (hF : FoldV B w) (hp : Per r p) :
    Calls Tryd.prog 45 #[.int .i32 r] w fun e w' => e = .returned (.int .i32 (minU p r)) ∧ ∃ q, w' = w.drewN q := by
  by_cases h : r < 65 ∨ 125251 < r
  · have := hp.far h
    subst this
    have h2 := minFold_far r w h
    simpa [minU, itF] using h2
  · exact minFold_near r w hF (by omega) (by omega) hp
set_option maxRecDepth 100000 in
set_option maxHeartbeats 1000000 in
theorem zzMin_any (r : Int) (w : World) {B p : Nat} (hF : FoldV B w) (hp : Per r p) :
    Calls Tryd.prog 24 #[.int .i32 r] w fun e w' => e = .returned (.int .i32 (minU p r)) ∧ ∃ q, w' = w.drewN q := by
  have HF := Lib.hid hF; clear hF
  have HP := Lib.hid hp; clear hp
  go_enter Tryd.func24, Tryd.ntmps24
  go_wp2_with (go_at_call 45; refine (minFold_any _ _ HF.out HP.out).mono ?_; rintro e w1 ⟨rfl, q1, rfl⟩)
  go_ret
  exact ⟨rfl, q1, rfl⟩
set_option maxRecDepth 100000 in
set_option maxHeartbeats 1000000 in
theorem syMin_any (r : Int) (w : World) {B p : Nat} (hF : FoldV B w) (hp : Per r p) :
    Calls Tryd.prog 9 #[.int .i32 r] w fun e w' => e = .returned (.int .i32 (minU p r)) ∧ ∃ q, w' = w.drewN q := by
  have HF := Lib.hid hF; clear hF
  have HP := Lib.hid hp; clear hp
  go_enter Tryd.func9, Tryd.ntmps9
  go_wp2_with (go_at_call 24; refine (zzMin_any _ _ HF.out HP.out).mono ?_; rintro e w1 ⟨rfl, q1, rfl⟩)
  go_ret
  exact ⟨rfl, q1, rfl⟩
set_option maxRecDepth 100000 in
set_option maxHeartbeats 1000000 in
theorem syFold_any (r : Int) (w : World) {B : Nat} (hF : FoldV B w) :
    Calls Tryd.prog 23 #[.int .i32 r] w fun e w' => e = .returned (.int .i32 (SF r)) ∧ ∃ q, w' = w.drewN q := by
  have HF := Lib.hid hF; clear hF
  go_enter Tryd.func23, Tryd.ntmps23
  go_wp2_with (go_at_call 44; refine (sf_any _ _ HF.out).mono ?_; rintro e w1 ⟨rfl, q1, rfl⟩)
  go_ret
  exact ⟨rfl, q1, rfl⟩
theorem info_i32 : (Tryd.prog.info? 21).map (fun i => (i.zero, i.size, i.bytes)) = some (some (.int .i32 0), 1, 4) := by kernel_rfl
def orbV (k : Nat) (r : Int) : List Value := (List.range k).map fun j => .int .i32 (itF j r)
theorem orbV_snoc (k : Nat) (r : Int) : orbV k r ++ [.int .i32 (itF k r)] = orbV (k + 1) r := by simp [orbV, List.range_succ]
set_option maxRecDepth 100000 in
set_option maxHeartbeats 1000000 in
theorem syOrbit_any (r : Int) (w : World) {B p : Nat} (hF : FoldV B w) (hB : B ≤ w.heap.size) (hp : Per r p) :
    Calls Tryd.prog 8 #[.int .i32 r] w fun e w' => ∃ v, e = .returned v ∧ w'.ownsRow w.heap.size 21 1 v p (orbV p r) ∧ Below w.heap.size w w' := by
  have HF := Lib.hid hF; clear hF
  have HP := Lib.hid hp; clear hp
  go_enter Tryd.func8, Tryd.ntmps8
  go_wp2_with (go_at_call 23; refine (syFold_any _ _ (HF.out.below ((Below.refl _ _).alloc (Nat.le_refl _) _) hB)).mono ?_; rintro e w1 ⟨rfl, q1, rfl⟩)
  go_loopg [3, 4] (p + 1) (fun g s3 s4 wx => ∃ k : Nat, 1 ≤ k ∧ k ≤ p ∧ p - k < g ∧ s4 = .int .i32 (itF k r) ∧ wx.ownsRow w.heap.size 21 1 s3 k (orbV k r) ∧ Below w.heap.size w wx)
  case atStart => exact ⟨1, by omega, HP.out.pos, by omega, rfl, own_lit1 w _ _ (Nat.le_refl _), below_drewN ((Below.refl _ _).alloc (Nat.le_refl _) _) _⟩
  case round =>
    obtain ⟨k, hk1, hk2, hg, rfl, hown, hb⟩ := hrel
    obtain ⟨g', rfl⟩ : ∃ g', gk = g' + 1 := ⟨gk - 1, by omega⟩
    have hp4 := HP.out.le
    by_cases hlt : k < p
    · have hne : (itF k r != r) = true := by simpa using HP.out.first k hk1 hlt
      go_wp2_with (first
        | (at_builtin; refine Mem.wp_app1 rfl _ _ _ rfl w.heap.size 21 (.int .i32 0) 4 Tryd.underlying22 info_i32 rfl _ k (orbV k r) rfl hown (.int .i32 (itF k r)) rfl rfl (by simp [maxLen]; omega) (by omega) hb.size ?_; intro v' w2 hown2 hg2 hb2)
        | (go_at_call 23; refine (syFold_any _ _ (HF.out.below (hb.trans hb2) hB)).mono ?_; rintro e w1 ⟨rfl, q1, rfl⟩))
      go_roundg g'
      case rel => exact ⟨k + 1, by omega, by omega, by omega, rfl, orbV_snoc k r ▸ hown2, below_drewN (hb.trans hb2) _⟩
      case measure => omega
    · obtain rfl : k = p := by omega
      have hne : (itF k r != r) = false := by simpa using HP.out.back
      go_wp2
      go_ret
      exact ⟨_, rfl, hown, hb⟩
theorem per97 : Per 97 2 := by
  have h1 : itF 1 97 = 65 := by decide +kernel
  have h2 : itF 2 97 = 97 := by decide +kernel
  have hin := itF_in 97 (by omega) (by omega)
  exact ⟨by omega, by omega, h2, fun j _ _ => (by have e : j = 1 := (by omega); rw [e, h1]; omega), fun j => (hin j).1, fun j => (hin j).2, fun h => by omega⟩
theorem min97 : minU 2 97 = 65 := by decide +kernel
theorem orbV_at (p : Nat) (r : Int) (j : Nat) (h : j < p) : (orbV p r)[j]? = some (.int .i32 (itF j r)) := by simp [orbV, h]
set_option maxRecDepth 100000 in
set_option maxHeartbeats 1000000 in
theorem law_far (r : Int) (w : World) (h : r < 0 ∨ 1114111 < r) :
    Calls Tryd.prog 3 #[.int .i32 r] w fun e w' => e = .returned (.bool true) ∧ Below w.heap.size w w' := by
  by_cases h1 : r < 0
  · clear h
    go_enter Tryd.func3, Tryd.ntmps3
    go_wp2
    go_ret
    exact ⟨rfl, Below.refl _ _⟩
  · have h2 : 1114111 < r := by omega
    clear h
    go_enter Tryd.func3, Tryd.ntmps3
    go_wp2
    go_ret
    exact ⟨rfl, Below.refl _ _⟩
set_option maxRecDepth 100000 in
set_option maxHeartbeats 1000000 in
theorem law_near (r : Int) (w : World) {B : Nat} (hF : FoldV B w) (hB : B ≤ w.heap.size) (h0 : 0 ≤ r) (h1 : r ≤ 1114111) :
    Calls Tryd.prog 3 #[.int .i32 r] w fun e w' => e = .returned (.bool true) ∧ Below w.heap.size w w' := by
  obtain ⟨p, hp⟩ := per_any r h0 h1
  have HF := Lib.hid hF; clear hF
  have HP := Lib.hid hp; clear hp
  have hp4 := HP.out.le
  have hp1 := HP.out.pos
  have d1 : decide (r < 0) = false := by simp; omega
  have d2 : decide (1114111 < r) = false := by simp; omega
  go_enter Tryd.func3, Tryd.ntmps3
  go_wp2_with fail
  refine (syOrbit_any _ _ HF.out hB HP.out).mono ?_
  rintro e w1 ⟨v, rfl, hown, hb1⟩
  obtain ⟨g, cap, rfl, hg, hlt⟩ := hown.form hp1
  have hc := fun j (hj : j < p) => (hown.cellAt j (by omega)).trans (orbV_at p r j hj)
  have HC := Lib.hid hc
  clear hc hown
  go_wp2_with fail
  go_loopg [3, 16] (p + 1) (fun g' s3 s16 wx => ∃ j : Nat, j ≤ p ∧ p - j < g' ∧ s16 = .int .i64 j ∧ s3 = .int .i32 (minU j r) ∧ wx = w1)
  case atStart => exact ⟨0, by omega, by omega, rfl, rfl, rfl⟩
  case round =>
    obtain ⟨j, hj, hgj, rfl, rfl, rfl⟩ := hrel
    obtain ⟨g', rfl⟩ : ∃ g', gk = g' + 1 := ⟨gk - 1, by omega⟩
    by_cases hlj : j < p
    · have hcj := HC.out j hlj
      go_wp2_with fail
      all_goals
        go_roundg g'
        case rel => exact ⟨j + 1, by omega, by omega, by go_num, by simp only [minU]; congr 1; omega, rfl⟩
        case measure => omega
    · obtain rfl : j = p := by omega
      go_wp2_with (first | (go_at_call_of 9 (Value.int .i32 r); refine (syMin_any _ _ (HF.out.below hb1 hB) HP.out).mono ?_; rintro e w2 ⟨rfl, q1, rfl⟩) | (go_at_call 9; refine (syMin_any _ _ ((HF.out.below hb1 hB).drewN _) per97).mono ?_; rintro e w2 ⟨rfl, q2, rfl⟩; rw [min97]))
      go_ret
      exact ⟨by simp, below_drewN hb1 _⟩
theorem law_any (r : Int) (w : World) {B : Nat} (hF : FoldV B w) (hB : B ≤ w.heap.size) :
    Calls Tryd.prog 3 #[.int .i32 r] w fun e w' => e = .returned (.bool true) ∧ Below w.heap.size w w' := by
  by_cases h : r < 0 ∨ 1114111 < r
  · exact law_far r w h
  · exact law_near r w hF hB (by omega) (by omega)
end Go.Proofs.YtholpemmakdglaaDoor.Fold
