/- The closure of the merging of two lists of ranges that takes the next range of one of them. -/
import Derived.Test.YtholpemmakdglaaBlk
import Derived.Test.YtholpemmakdglaaInts
import Derived.Test.YtholpemmakdglaaRegT
import Derived.Deep.LoopGhost
import Derived.Deep.QuietTactic
import Derived.BigQuiet
import Derived.Deep.RegionHeld3
namespace Go.Proofs.Ytholpemmakdglaa.Mem
open Go.RowKit
set_option linter.unusedVariables false
theorem infoI : (Try.prog.info? 21).map (fun i => (i.zero, i.size, i.bytes)) = some (some (.int .i32 0), 1, 4) := by kernel_rfl
theorem infoU : (Try.prog.info? 27).map (fun i => (i.zero, i.size, i.bytes)) = some (some (.int .u32 0), 1, 4) := by kernel_rfl
theorem blk_apart {w : World} {a b : Nat} {cs cs' : Array Value} {t t' : TypeId} (h : w.heap[a]? = some (.cells cs t (0, 0))) (h' : w.heap[b]? = some (.cells cs' t' (0, 0))) (ht : t ≠ t') : a ≠ b := fun e => by
  subst e
  rw [h] at h'
  simp only [Option.some.injEq, Obj.cells.injEq] at h'
  exact ht h'.2.1
theorem own_keep {w w' : World} {base : Nat} {e : TypeId} {v : Value} {k : Nat} {xs : List Value} (h : w.ownsRow base e 1 v k xs) (hk : ∀ g, v.ownBlock = some g → w'.heap[g]? = w.heap[g]?) : w'.ownsRow base e 1 v k xs := by
  obtain ⟨h1, h2⟩ := h
  refine ⟨h1, ?_⟩
  rcases h2 with h2 | ⟨g, cap, cur, hv, hg, hh, r⟩
  · exact Or.inl h2
  · subst hv
    exact Or.inr ⟨g, cap, cur, rfl, hg, by rw [hk g rfl]; exact hh, r⟩
theorem own_lt {w : World} {base : Nat} {e : TypeId} {v : Value} {k : Nat} {xs : List Value} (h : w.ownsRow base e 1 v k xs) {g : Nat} (hg : v.ownBlock = some g) : base ≤ g ∧ g < w.heap.size := by
  rcases h.2 with ⟨rfl, _⟩ | ⟨g', cap, cur, rfl, hb, hh, _⟩
  · simp [Value.ownBlock] at hg
  · simp only [Value.ownBlock, Option.some.injEq] at hg
    subst hg
    exact ⟨hb, lt_of_block hh⟩
/-- What the closure has of the world w at W: the counter, the place of the last character, the two lists; all else as it was. -/
structure St (w W : World) (B pl bi bm bn : Nat) (iv ixv : Int) (vm vn : Value) (M N : List Int) : Prop where
  hix : W.heap[bi]? = some (.cells #[.int .i64 ixv] 3 (0, 0))
  hpl : W.heap[pl]? = some (.cells #[.int .i64 iv] 3 (0, 0))
  hbm : W.heap[bm]? = some (.cells #[vm] 26 (0, 0))
  hbn : W.heap[bn]? = some (.cells #[vn] 29 (0, 0))
  hom : W.ownsRow B 21 1 vm M.length (M.map (Value.int .i32))
  hon : W.ownsRow B 27 1 vn N.length (N.map (Value.int .u32))
  hbel : Below B w W
  hrest : ∀ b cs t, w.heap[b]? = some (.cells cs t (0, 0)) → t ≠ 21 → t ≠ 27 → b ≠ pl → b ≠ bi → b ≠ bm → b ≠ bn → W.heap[b]? = some (.cells cs t (0, 0))
section
variable {w W : World} {B pl bi bm bn : Nat} {iv ixv : Int} {vm vn : Value} {M N : List Int}
theorem St.same (h : St w W B pl bi bm bn iv ixv vm vn M N) {W' : World} (hh : W'.heap = W.heap) (hb : Below B W W') : St w W' B pl bi bm bn iv ixv vm vn M N :=
  ⟨by rw [hh]; exact h.hix, by rw [hh]; exact h.hpl, by rw [hh]; exact h.hbm, by rw [hh]; exact h.hbn, own_keep h.hom fun g _ => by rw [hh], own_keep h.hon fun g _ => by rw [hh], h.hbel.trans hb, fun b cs t a1 a2 a3 a4 a5 a6 a7 => by rw [hh]; exact h.hrest b cs t a1 a2 a3 a4 a5 a6 a7⟩
theorem St.alloc (h : St w W B pl bi bm bn iv ixv vm vn M N) (hB : B ≤ W.heap.size) (o : Obj) : St w (W.alloc o) B pl bi bm bn iv ixv vm vn M N :=
  ⟨blk_old h.hix o, blk_old h.hpl o, blk_old h.hbm o, blk_old h.hbn o, h.hom.alloc o, h.hon.alloc o, h.hbel.alloc hB o, fun b cs t a1 a2 a3 a4 a5 a6 a7 => blk_old (h.hrest b cs t a1 a2 a3 a4 a5 a6 a7) o⟩
theorem St.setPl (h : St w W B pl bi bm bn iv ixv vm vn M N) (hp : B ≤ pl) (hne : pl ≠ bi) (u : Int) : St w (W.setCell ⟨pl, 0, none⟩ (.int .i64 u)) B pl bi bm bn u ixv vm vn M N :=
  ⟨blk_set_ne h.hix (Ne.symm hne) _, one_setCell h.hpl, blk_set_ne h.hbm (blk_apart h.hbm h.hpl (by decide)) _, blk_set_ne h.hbn (blk_apart h.hbn h.hpl (by decide)) _,
    ownsRow_setCell_other h.hom (Ne.symm (own_apart h.hom h.hpl (by decide))) _, ownsRow_setCell_other h.hon (Ne.symm (own_apart h.hon h.hpl (by decide))) _, h.hbel.setCell hp _,
    fun b cs t a1 a2 a3 a4 a5 a6 a7 => blk_set_ne (h.hrest b cs t a1 a2 a3 a4 a5 a6 a7) a4 _⟩
theorem St.setIx (h : St w W B pl bi bm bn iv ixv vm vn M N) (hp : B ≤ bi) (hne : pl ≠ bi) (u : Int) : St w (W.setCell ⟨bi, 0, none⟩ (.int .i64 u)) B pl bi bm bn iv u vm vn M N :=
  ⟨one_setCell h.hix, blk_set_ne h.hpl hne _, blk_set_ne h.hbm (blk_apart h.hbm h.hix (by decide)) _, blk_set_ne h.hbn (blk_apart h.hbn h.hix (by decide)) _,
    ownsRow_setCell_other h.hom (Ne.symm (own_apart h.hom h.hix (by decide))) _, ownsRow_setCell_other h.hon (Ne.symm (own_apart h.hon h.hix (by decide))) _, h.hbel.setCell hp _,
    fun b cs t a1 a2 a3 a4 a5 a6 a7 => blk_set_ne (h.hrest b cs t a1 a2 a3 a4 a5 a6 a7) a5 _⟩
theorem below_grown (h : St w W B pl bi bm bn iv ixv vm vn M N) (hB : B ≤ W.heap.size) {w' : World} {v : Value} (hg : W.grownBy w' v.ownBlock) (hv : ∀ g, v.ownBlock = some g → B ≤ g) : Below B w w' :=
  Below.grown h.hbel hg hB hv
theorem St.setM (h : St w W B pl bi bm bn iv ixv vm vn M N) (hB : B ≤ W.heap.size) (hp : B ≤ bm) {w' : World} (hg : W.grownBy w' vm.ownBlock) {vm' : Value} {M' : List Int} (ho : w'.ownsRow B 21 1 vm' M'.length (M'.map (Value.int .i32))) :
    St w (w'.setCell ⟨bm, 0, none⟩ vm') B pl bi bm bn iv ixv vm' vn M' N := by
  have k1 := blk_grown h.hix hg (own_apart h.hom h.hix (by decide))
  have k2 := blk_grown h.hpl hg (own_apart h.hom h.hpl (by decide))
  have k3 := blk_grown h.hbm hg (own_apart h.hom h.hbm (by decide))
  have k4 := blk_grown h.hbn hg (own_apart h.hom h.hbn (by decide))
  have k5 : w'.ownsRow B 27 1 vn N.length (N.map (Value.int .u32)) := own_keep h.hon fun g hgo => hg.block g (own_lt h.hon hgo).2 (Ne.symm (own_apart2 h.hom h.hon (by decide) g hgo))
  have k6 : Below B w w' := below_grown h hB hg fun g hgo => (own_lt h.hom hgo).1
  refine ⟨blk_set_ne k1 (blk_apart k1 k3 (by decide)) _, blk_set_ne k2 (blk_apart k2 k3 (by decide)) _, one_setCell k3, blk_set_ne k4 (blk_apart k4 k3 (by decide)) _,
    ownsRow_setCell_other ho (Ne.symm (own_apart ho k3 (by decide))) _, ownsRow_setCell_other k5 (Ne.symm (own_apart k5 k3 (by decide))) _, k6.setCell hp _, fun b cs t a1 a2 a3 a4 a5 a6 a7 => ?_⟩
  have r := h.hrest b cs t a1 a2 a3 a4 a5 a6 a7
  exact blk_set_ne (blk_grown r hg (own_apart h.hom r a2)) a6 _
theorem St.setN (h : St w W B pl bi bm bn iv ixv vm vn M N) (hB : B ≤ W.heap.size) (hp : B ≤ bn) {w' : World} (hg : W.grownBy w' vn.ownBlock) {vn' : Value} {N' : List Int} (ho : w'.ownsRow B 27 1 vn' N'.length (N'.map (Value.int .u32))) :
    St w (w'.setCell ⟨bn, 0, none⟩ vn') B pl bi bm bn iv ixv vm vn' M N' := by
  have k1 := blk_grown h.hix hg (own_apart h.hon h.hix (by decide))
  have k2 := blk_grown h.hpl hg (own_apart h.hon h.hpl (by decide))
  have k3 := blk_grown h.hbm hg (own_apart h.hon h.hbm (by decide))
  have k4 := blk_grown h.hbn hg (own_apart h.hon h.hbn (by decide))
  have k5 : w'.ownsRow B 21 1 vm M.length (M.map (Value.int .i32)) := own_keep h.hom fun g hgo => hg.block g (own_lt h.hom hgo).2 (Ne.symm (own_apart2 h.hon h.hom (by decide) g hgo))
  have k6 : Below B w w' := below_grown h hB hg fun g hgo => (own_lt h.hon hgo).1
  refine ⟨blk_set_ne k1 (blk_apart k1 k4 (by decide)) _, blk_set_ne k2 (blk_apart k2 k4 (by decide)) _, blk_set_ne k3 (blk_apart k3 k4 (by decide)) _, one_setCell k4,
    ownsRow_setCell_other k5 (Ne.symm (own_apart k5 k4 (by decide))) _, ownsRow_setCell_other ho (Ne.symm (own_apart ho k4 (by decide))) _, k6.setCell hp _, fun b cs t a1 a2 a3 a4 a5 a6 a7 => ?_⟩
  have r := h.hrest b cs t a1 a2 a3 a4 a5 a6 a7
  exact blk_set_ne (blk_grown r hg (own_apart h.hon r a3)) a7 _
end
end Go.Proofs.Ytholpemmakdglaa.Mem
