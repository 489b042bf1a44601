/- QuoteMeta writes each byte, with a backslash ahead of those that it marks: the contract. -/
import Derived.Test.YtholpemmakdglaaQuote
import Derived.Below
import Derived.Deep.Draws
import Derived.Laws.OwnMore
import Derived.Laws.Rows
import Derived.Lib.BufferWrite
import Derived.Laws.BytesString
import Derived.Laws.MakeOwn
namespace Go.Proofs.Ytholpemmakdglaa.Quote
open Go.RowKit
set_option linter.unusedVariables false
def bInt (b : UInt8) : Value := .int .u8 (b.toNat : Int)
def qb (l : List UInt8) : List UInt8 := l.flatMap fun b => if spB (b.toNat : Int) then [92, b] else [b]
theorem info5 : (Try.prog.info? 5).map (fun i => (i.zero, i.size, i.bytes)) = some (some (.int .u8 0), 1, 1) := by kernel_rfl
theorem mk_eq (W : World) (n k : Nat) (hk : k ≤ n) (hn : n ≤ 5000000000) : (Instr.makeSlice 54 (.int .i64 (2 * (n : Int) - (k : Int))) (.int .i64 (2 * (n : Int) - (k : Int)))).run Try.prog W = .ok (.slice (some ⟨W.heap.size, 0, none⟩) (2 * n - k) (2 * n - k)) (W.alloc (.cells (madeCells #[.int .u8 0] (2 * n - k)) 5)) := by
  obtain ⟨i0, hi0, hz0, hz1, hz2⟩ := info_parts info5
  have := run_make W 54 5 i0 (.int .u8 0) Try.underlying54 hi0 hz0 .i64 .i64 (2 * (n : Int) - (k : Int)) (2 * (n : Int) - (k : Int)) (by omega) (by omega) (by rw [hz2]; omega) (by omega)
  rw [this, hz1, show (2 * (n : Int) - (k : Int)).toNat = 2 * n - k by omega, Nat.mul_one]; rfl
def rowOf (xs : List UInt8) (L : Nat) : Array Value := (xs.map bInt ++ List.replicate (L - xs.length) (Value.int .u8 0)).toArray
theorem blk_alloc (w : World) (C : Array Value) (t : TypeId) : (w.alloc (.cells C t)).heap[w.heap.size]? = some (.cells C t (0, 0)) := by
  show (w.heap.push _)[w.heap.size]? = _
  simp
theorem below_setRow {B : Nat} {a w : World} (h : Below B a w) {g : Nat} (hg : B ≤ g) (C : Array Value) : Below B a (w.setRow g C) := by
  refine h.trans ⟨rfl, rfl, rfl, by simp [World.setRow], fun k hk => ?_⟩
  simp only [World.setRow, Array.getElem?_modify]
  rw [if_neg (by omega)]
theorem cp_eq (w1 : World) (s : ByteArray) (k : Nat) (hk : k < s.size) (hs : s.size ≤ 5000000000) : ∃ W2, (Builtin.copy_ #[54, 9] 3 #[.slice (some ⟨w1.heap.size, 0, none⟩) (2 * s.size - k) (2 * s.size - k), .string (s.extract 0 k)]).run Try.prog (w1.alloc (.cells (madeCells #[.int .u8 0] (2 * s.size - k)) 5)) = .ok (.int .i64 k) W2 ∧
    W2.heap[w1.heap.size]? = some (.cells (rowOf (s.data.toList.take k) (2 * s.size - k)) 5 (0, 0)) ∧ Below w1.heap.size w1 W2 := by
  have hsz : (s.extract 0 k).size = k := by simp; omega
  have hc := Lib.run_copy_row_string (P := Try.prog) (w1.alloc (.cells (madeCells #[.int .u8 0] (2 * s.size - k)) 5)) 54 9 3 5 w1.heap.size 0 (2 * s.size - k) (2 * s.size - k) (s.extract 0 k) (madeCells #[.int .u8 0] (2 * s.size - k)) 5
    Try.underlying54 (by kernel_rfl) (blk_alloc _ _ _) (by rw [hsz]; omega) (by rw [hsz, size_madeCells]; omega)
  rw [hsz] at hc
  refine ⟨_, hc, ?_, below_setRow ((Below.refl _ _).alloc (Nat.le_refl _) _) (Nat.le_refl _) _⟩
  simp only [World.setRow, Array.getElem?_modify, blk_alloc, if_true, Option.map_some]
  congr 2
  unfold rowOf madeCells
  apply Array.ext'
  have e : (s.extract 0 k).data.toList = s.data.toList.take k := by simp
  rw [e]
  simp only [List.take_zero, List.nil_append, Nat.zero_add]
  have hl : (List.take k s.data.toList).length = k := by simp; omega
  rw [hl]
  congr 1
  apply List.ext_getElem
  · simp
  · intro i h1 h2
    simp [Nat.mod_one]
theorem qb_one (b : UInt8) : qb [b] = if spB (b.toNat : Int) then [92, b] else [b] := by simp [qb]
theorem qb_append (l m : List UInt8) : qb (l ++ m) = qb l ++ qb m := by simp [qb]
theorem qb_self (l : List UInt8) (h : ∀ b ∈ l, spB (b.toNat : Int) = false) : qb l = l := by
  induction l with
  | nil => rfl
  | cons b l ih =>
    have : b :: l = [b] ++ l := rfl
    rw [this, qb_append, qb_one, h b (by simp), ih (fun c hc => h c (by simp [hc]))]; rfl
theorem qb_le (l : List UInt8) : l.length ≤ (qb l).length ∧ (qb l).length ≤ 2 * l.length := by
  induction l with
  | nil => simp [qb]
  | cons b l ih =>
    have : b :: l = [b] ++ l := rfl
    rw [this, qb_append, qb_one]
    split <;> simp <;> omega
theorem qb_take (s : ByteArray) (k : Nat) (h : ∀ j (h : j < s.size), j < k → spB (s[j].toNat : Int) = false) : qb (s.data.toList.take k) = s.data.toList.take k := by
  refine qb_self _ fun b hb => ?_
  obtain ⟨j, hj, rfl⟩ := List.getElem_of_mem hb
  have hj' : j < s.size := by simp at hj; omega
  have := h j hj' (by simp at hj; omega)
  simp only [List.getElem_take]
  exact this
theorem qb_upto (s : ByteArray) (k m : Nat) (hk : k ≤ m) (hm : m ≤ s.size) (h : ∀ j (h : j < s.size), j < k → spB (s[j].toNat : Int) = false) : (qb (s.data.toList.take m)).length ≤ 2 * m - k := by
  have e : s.data.toList.take m = s.data.toList.take k ++ (s.data.toList.take m).drop k := by
    have := List.take_append_drop k (s.data.toList.take m)
    rw [List.take_take, Nat.min_eq_left hk] at this
    exact this.symm
  rw [e, qb_append, qb_take s k h]
  have := (qb_le ((s.data.toList.take m).drop k)).2
  simp at this ⊢
  omega
theorem quote_len (s : ByteArray) (k : Nat) (hk : k ≤ s.size) (h : ∀ j (h : j < s.size), j < k → spB (s[j].toNat : Int) = false) : (qb s.data.toList).length ≤ 2 * s.size - k := by
  have := qb_upto s k s.size hk (Nat.le_refl _) h
  rwa [List.take_of_length_le (by simp)] at this
theorem rowOf_size (xs : List UInt8) (L : Nat) (h : xs.length ≤ L) : (rowOf xs L).size = L := by simp [rowOf]; omega
theorem rowOf_set (xs : List UInt8) (L : Nat) (b : UInt8) (h : xs.length < L) : (rowOf xs L).setIfInBounds xs.length (bInt b) = rowOf (xs ++ [b]) L := by
  unfold rowOf
  obtain ⟨d, hd⟩ : ∃ d, L - xs.length = d + 1 := ⟨L - xs.length - 1, by omega⟩
  have hd2 : L - (xs ++ [b]).length = d := by simp; omega
  rw [hd, hd2]
  simp [List.replicate_succ]
theorem quote_len1 (s : ByteArray) (k m : Nat) (hm : k ≤ m) (hl : m < s.size) (h : ∀ j (h : j < s.size), j < k → spB (s[j].toNat : Int) = false) : (qb (s.data.toList.take m)).length < 2 * s.size - k ∧ (spB (s[m].toNat : Int) = true → (qb (s.data.toList.take m)).length + 1 < 2 * s.size - k) := by
  have := qb_upto s k m hm (by omega) h
  exact ⟨by omega, fun _ => by omega⟩
theorem qb_snoc (s : ByteArray) (m : Nat) (h : m < s.size) : qb (s.data.toList.take (m + 1)) = qb (s.data.toList.take m) ++ (if spB (s[m].toNat : Int) then [92, s[m]] else [s[m]]) := by
  rw [List.take_succ_eq_append_getElem (by simpa using h), qb_append, qb_one]; rfl
theorem blk_below {w w' : World} {g : Nat} {C : Array Value} {t : TypeId} (h : w.heap[g]? = some (.cells C t (0, 0))) (hb : Below w.heap.size w w') : w'.heap[g]? = some (.cells C t (0, 0)) :=
  (hb.block g (by rcases Nat.lt_or_ge g w.heap.size with h' | h'; exact h'; rw [Array.getElem?_eq_none h'] at h; cases h)).trans h
theorem blk_some {w : World} {g q : Nat} {C : Array Value} {t : TypeId} (h : w.heap[g]? = some (.cells C t (0, 0))) (hq : q < C.size) : ∃ v, w.cell? ⟨g, q, none⟩ = some v := by
  rw [cell_of_row w g q C t (0, 0) h]; exact ⟨_, Array.getElem?_eq_getElem hq⟩
theorem blk_frz {w : World} {g q : Nat} {C : Array Value} {t : TypeId} (h : w.heap[g]? = some (.cells C t (0, 0))) : w.frozen? ⟨g, q, none⟩ = false := by
  simp [World.frozen?, h]
theorem blk_set {w : World} {g : Nat} {C : Array Value} {t : TypeId} (h : w.heap[g]? = some (.cells C t (0, 0))) (i : Nat) (u : Value) : (w.setCell ⟨g, i, none⟩ u).heap[g]? = some (.cells (C.setIfInBounds i u) t (0, 0)) := by
  simp [World.setCell, Array.getElem?_modify, h]
theorem rowOf_one (xs : List UInt8) (L : Nat) (b : UInt8) (h : xs.length < L) : (rowOf xs L).setIfInBounds xs.length (Value.int .u8 (b.toNat : Int)) = rowOf (xs ++ [b]) L := rowOf_set xs L b h
theorem rowOf_two (xs : List UInt8) (L : Nat) (b : UInt8) (h : xs.length + 1 < L) : ((rowOf xs L).setIfInBounds xs.length (Value.int .u8 92)).setIfInBounds (xs.length + 1) (Value.int .u8 (b.toNat : Int)) = rowOf (xs ++ [92, b]) L := by
  have h1 : (rowOf xs L).setIfInBounds xs.length (Value.int .u8 92) = rowOf (xs ++ [92]) L := rowOf_set xs L 92 (by omega)
  have h2 := rowOf_set (xs ++ [92]) L b (by simp; omega)
  rw [h1]; simpa [bInt] using h2
theorem qb_all (s : ByteArray) (h : ∀ j (h : j < s.size), spB (s[j].toNat : Int) = false) : (⟨(qb s.data.toList).toArray⟩ : ByteArray) = s := by
  have := qb_take s s.size (fun j hj _ => h j hj)
  have he : s.data.toList.take s.size = s.data.toList := List.take_of_length_le (by simp)
  rw [he] at this
  rw [this]
theorem cv_eq (xs : List UInt8) (L : Nat) {w : World} {g : Nat} (hg : w.heap[g]? = some (.cells (rowOf xs L) 5 (0, 0))) (h : xs.length ≤ L) : (convert 54 9 (.slice (some ⟨g, 0, none⟩) xs.length L)).run Try.prog w = .ok (.string ⟨xs.toArray⟩) w := by
  refine run_convert_bytes_back w 54 9 5 ⟨g, 0, none⟩ L xs Try.underlying54 Try.underlying5 Try.underlying9 ?_
  intro j hj
  have ha : (⟨g, 0, none⟩ : Addr).add j = ⟨g, j, none⟩ := by unfold Addr.add; split <;> simp_all
  rw [ha, cell_of_row w g j _ 5 (0, 0) hg]
  simp [rowOf, bInt, List.getElem?_append, hj]
theorem byte_lt (b : UInt8) : (b.toNat : Int) < 256 := by have := b.toNat_lt; omega
set_option maxRecDepth 100000 in
set_option maxHeartbeats 1000000 in
theorem quote_any (s : ByteArray) (w : World) (hs : s.size ≤ 5000000000) :
    Calls Try.prog 24 #[.string s] w fun e w' => e = .returned (.string ⟨(qb s.data.toList).toArray⟩) ∧ Below w.heap.size w w' := by
  go_enter Try.func24, Try.ntmps24
  go_wp2
  go_loopw [3] (fun i wr => ∃ k : Nat, k ≤ s.size ∧ i = .int .i64 k ∧ Below w.heap.size w wr ∧ (∀ j (h : j < s.size), j < k → spB (s[j].toNat : Int) = false)) (fun i _ => s.size - (intOf i).toNat)
  case atStart => exact ⟨0, by omega, rfl, Below.refl _ _, by omega⟩
  case round =>
    obtain ⟨k, hk, rfl, hb, hn⟩ := hrel
    have hn' := Lib.hid hn; clear hn
    by_cases hlt : k < s.size
    · by_cases hsp : spB (s[k].toNat : Int) = true
      · have hsp' := Lib.hid hsp; clear hsp
        have hd : decide (s.size ≤ k) = false := by simp; omega
        go_wp2_with (go_at_call 35; refine (sp_any _ _ (by omega) (byte_lt _)).mono ?_; rintro e w1 ⟨rfl, hb2⟩; rw [hsp'.out]; have hmk := mk_eq w1 s.size k (by omega) hs; obtain ⟨W2, hcp, hblk, hbW⟩ := cp_eq w1 s k hlt hs)
        have hbw : Below w.heap.size w w1 := hb.trans (hb2.mono hb.size)
        have hg : w.heap.size ≤ w1.heap.size := hbw.size
        have Hblk := Lib.hid hblk
        clear hblk hmk hcp hb hb2
        have hq := quote_len s k hk hn'.out
        go_loopw [3, 5] (fun i j wr => ∃ m : Nat, k ≤ m ∧ m ≤ s.size ∧ i = .int .i64 m ∧ j = .int .i64 ((qb (s.data.toList.take m)).length : Nat) ∧ Below w1.heap.size w1 wr ∧ wr.heap[w1.heap.size]? = some (.cells (rowOf (qb (s.data.toList.take m)) (2 * s.size - k)) 5 (0, 0))) (fun i _ _ => s.size - (intOf i).toNat)
        case atStart => exact ⟨k, by omega, by omega, rfl, by rw [qb_take s k hn'.out]; simp; omega, hbW, by rw [qb_take s k hn'.out]; exact Hblk.out⟩
        case round =>
          obtain ⟨m, hm1, hm2, rfl, rfl, hb4, hblk4⟩ := hrel
          have Hblk4 := Lib.hid hblk4; clear hblk4
          by_cases hlm : m < s.size
          · have HQ := Lib.hid (qb_snoc s m hlm)
            have hle := quote_len1 s k m hm1 hlm hn'.out
            by_cases hsm : spB (s[m].toNat : Int) = true
            · have hsm' := Lib.hid hsm; clear hsm
              have hle2 := hle.2 hsm'.out
              go_wp2_with (go_at_call 35; refine (sp_any _ _ (by omega) (byte_lt _)).mono ?_; rintro e w5 ⟨rfl, hb5⟩; rw [hsm'.out]; have Hb5 := Lib.hid (blk_below Hblk4.out hb5); obtain ⟨v1, hv1⟩ := blk_some Hb5.out (q := (qb (List.take m s.data.toList)).length) (by rw [rowOf_size _ _ (by omega)]; omega); have hf1 := blk_frz Hb5.out (q := (qb (List.take m s.data.toList)).length); obtain ⟨v2, hv2⟩ := blk_some Hb5.out (q := (qb (List.take m s.data.toList)).length + 1) (by rw [rowOf_size _ _ (by omega)]; omega); have hf2 := blk_frz Hb5.out (q := (qb (List.take m s.data.toList)).length + 1))
              go_roundw
              case rel => exact ⟨m + 1, by omega, by omega, by go_num, by rw [HQ.out, if_pos hsm'.out]; simp; go_num, (((hb4.trans (hb5.mono hb4.size)).setCell (Nat.le_refl _) _).setCell (Nat.le_refl _) _), by rw [HQ.out, if_pos hsm'.out]; exact (blk_set (blk_set Hb5.out _ _) _ _).trans (by rw [rowOf_two _ _ _ hle2])⟩
              case measure => simp [intOf]; omega
            · have hsm' := Lib.hid ((Bool.not_eq_true _).mp hsm); clear hsm
              go_wp2_with (go_at_call 35; refine (sp_any _ _ (by omega) (byte_lt _)).mono ?_; rintro e w5 ⟨rfl, hb5⟩; rw [hsm'.out]; have Hb5 := Lib.hid (blk_below Hblk4.out hb5); obtain ⟨v1, hv1⟩ := blk_some Hb5.out (q := (qb (List.take m s.data.toList)).length) (by rw [rowOf_size _ _ (by omega)]; omega); have hf1 := blk_frz Hb5.out (q := (qb (List.take m s.data.toList)).length))
              go_roundw
              case rel => exact ⟨m + 1, by omega, by omega, by go_num, by rw [HQ.out, if_neg (by rw [hsm'.out]; simp)]; simp, ((hb4.trans (hb5.mono hb4.size)).setCell (Nat.le_refl _) _), by rw [HQ.out, if_neg (by rw [hsm'.out]; simp)]; exact (blk_set Hb5.out _ _).trans (by rw [rowOf_one _ _ _ hle.1])⟩
              case measure => simp [intOf]; omega
          · have hme : s.data.toList.take m = s.data.toList := by
              rw [List.take_of_length_le]; have : s.data.toList.length = s.size := by simp
              omega
            rw [hme] at Hblk4 ⊢
            have hcv := cv_eq (qb s.data.toList) (2 * s.size - k) Hblk4.out hq
            go_wp2
            go_ret
            exact ⟨rfl, hbw.trans (hb4.mono hg)⟩
      · have hsp' := Lib.hid ((Bool.not_eq_true _).mp hsp)
        clear hsp
        go_wp2_with (go_at_call 35; refine (sp_any _ _ (by omega) (byte_lt _)).mono ?_; rintro e w1 ⟨rfl, hb2⟩; rw [hsp'.out])
        go_roundw
        case rel => exact ⟨k + 1, by omega, by go_num, hb.trans (hb2.mono hb.size), fun j h hj => if h' : j = k then by subst h'; exact hsp'.out else hn'.out j h (by omega)⟩
        case measure => simp [intOf]; omega
    · have hq := qb_all s (fun j h => hn'.out j h (by omega))
      have HQ := Lib.hid hq; clear hq
      go_wp2
      go_ret
      rw [HQ.out]
      exact ⟨rfl, hb⟩
set_option maxRecDepth 100000 in
set_option maxHeartbeats 1000000 in
theorem rxq_any (s : ByteArray) (w : World) (hs : s.size ≤ 5000000000) :
    Calls Try.prog 12 #[.string s] w fun e w' => e = .returned (.string ⟨(qb s.data.toList).toArray⟩) ∧ Below w.heap.size w w' := by
  go_enter Try.func12, Try.ntmps12
  go_wp2_with (go_at_call 24; refine (quote_any _ _ hs).mono ?_; rintro e w' ⟨rfl, hb⟩)
  go_ret
  exact ⟨rfl, hb⟩
def qs (s : ByteArray) : ByteArray := ⟨(qb s.data.toList).toArray⟩
theorem qs_any (s : ByteArray) (w : World) (hs : s.size ≤ 5000000000) :
    Calls Try.prog 12 #[.string s] w fun e w' => e = .returned (.string (qs s)) ∧ Below w.heap.size w w' := rxq_any s w hs
theorem qs_append (a b : ByteArray) : qs (a ++ b) = qs a ++ qs b := by
  unfold qs
  have : (a ++ b).data.toList = a.data.toList ++ b.data.toList := by simp
  rw [this, qb_append]
  apply ByteArray.ext
  simp
theorem qs_size (a : ByteArray) : a.size ≤ (qs a).size ∧ (qs a).size ≤ 2 * a.size := by
  have := qb_le a.data.toList
  have e : (qs a).size = (qb a.data.toList).length := by simp [qs, ByteArray.size]
  have e2 : a.data.toList.length = a.size := by simp
  omega
set_option maxRecDepth 100000 in
set_option maxHeartbeats 1000000 in
theorem joins_any (a b : ByteArray) (w : World) :
    Calls Try.prog 5 #[.string a, .string b] w fun e w' => e = .returned (.bool true) ∧ Below w.heap.size w w' := by
  by_cases ha : 2147483647 < (a.size : Int)
  · go_enter Try.func5, Try.ntmps5
    go_wp2
    go_ret
    exact ⟨rfl, Below.refl _ _⟩
  · by_cases hb : 2147483647 < (b.size : Int)
    · go_enter Try.func5, Try.ntmps5
      go_wp2
      go_ret
      exact ⟨rfl, Below.refl _ _⟩
    · have hl : (a ++ b).size = a.size + b.size := by simp
      have HL := Lib.hid hl; clear hl
      go_enter Try.func5, Try.ntmps5
      go_wp2_with fail
      refine (qs_any _ _ (by rw [HL.out]; omega)).mono ?_; rintro e w1 ⟨rfl, hb1⟩
      go_wp2_with fail
      refine (qs_any _ _ (by omega)).mono ?_; rintro e w2 ⟨rfl, hb2⟩
      go_wp2_with fail
      refine (qs_any _ _ (by omega)).mono ?_; rintro e w3 ⟨rfl, hb3⟩
      have hq := qs_append a b
      have hbb := (hb1.trans (hb2.mono hb1.size)).trans (hb3.mono (hb1.trans (hb2.mono hb1.size)).size)
      clear hb1 hb2 hb3
      rw [hq]
      clear hq
      obtain ⟨z1, z2⟩ := qs_size a
      obtain ⟨z3, z4⟩ := qs_size b
      generalize a ++ b = Y at *
      go_wp2_with fail
      go_ret
      exact ⟨by simp; omega, hbb⟩
end Go.Proofs.Ytholpemmakdglaa.Quote
