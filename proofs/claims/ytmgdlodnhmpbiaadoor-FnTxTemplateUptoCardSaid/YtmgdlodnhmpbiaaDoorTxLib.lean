/- What the library says of a character of a string, in this program: its decoding, whether it is a letter, whether it is a digit; the tables that it reads. -/
import Derived.Test.YtmgdlodnhmpbiaaDoorRows
import Derived.Test.YtmgdlodnhmpbiaaDoorShelfU
import Derived.WalkKit
import Derived.Deep.LoopGhost
import Derived.Lib.Hide
import Derived.Lib.IsU
import Derived.Lib.RuneCount
import Derived.Lib.RuneCountTail
import Derived.Below
namespace Go.Proofs.YtmgdlodnhmpbiaaDoor.Tx
open Go.RowKit Go.Lib
set_option linter.unusedVariables false
/-- The five tables, as Go's text lays them. -/
structure UTabs (w : World) : Prop where
  utf : Lib.Utf8Tabs 0 1 w
  props : Lib.TabIs Tryd.prog w "unicode.properties" .u8 Lib.propertiesTab
  letter : RVar 6 letterT w
  digit : RVar 7 digitT w
theorem cell_below {w w' : World} (hb : Below w.heap.size w w') {a : Addr} {v : Value} (hc : w.cell? a = some v) : w'.cell? a = some v := (hb.cell (World.block_lt_of_cell? w a hc)).trans hc
theorem rTabAt_below {Tb oT : Nat} {T : RTab} {w w' : World} (h : RTabAt Tb oT T w) (hb : Below w.heap.size w w') : RTabAt Tb oT T w' := by
  obtain ⟨a16, a32, R16, o16, c16, R32, o32, c32, k0, k1, k2, h1, h2, t1, t2, hc⟩ := h
  exact ⟨a16, a32, R16, o16, c16, R32, o32, c32, cell_below hb k0, cell_below hb k1, cell_below hb k2, h1, h2, RgTab_below t1 hb, RgTab_below t2 hb, hc⟩
theorem rVar_below {g : Nat} {T : RTab} {w w' : World} (h : RVar g T w) (hb : Below w.heap.size w w') : RVar g T w' := by
  obtain ⟨Tb, oT, hp, hA⟩ := h
  exact ⟨Tb, oT, cell_below hb hp, rTabAt_below hA hb⟩
theorem tabIs_below {P : Program} {n : String} {g : Nat} {k : IntKind} {zs : List Int} {w w' : World} (hg : P.globalNamed n = some g) (h : Lib.TabIs P w n k zs) (hb : Below w.heap.size w w') : Lib.TabIs P w' n k zs := by
  unfold Lib.TabIs World.var? at h ⊢
  rw [hg] at h ⊢
  simp only [Option.bind_some] at h ⊢
  have hlt : g < w.heap.size := by
    rcases Nat.lt_or_ge g w.heap.size with h' | h'
    · exact h'
    · rw [Array.getElem?_eq_none h'] at h; cases h
  rw [hb.block g hlt]
  exact h
theorem UTabs.below {w w' : World} (h : UTabs w) (hb : Below w.heap.size w w') : UTabs w' :=
  ⟨Utf8Tabs_below h.utf hb, tabIs_below (g := 5) (by kernel_rfl) h.props hb, rVar_below h.letter hb, rVar_below h.digit hb⟩
theorem letter_c (r : Int) (w : World) (hlo : -2147483648 ≤ r) (hhi : r ≤ 2147483647) (hT : UTabs w) :
    Calls Tryd.prog 95 #[.int .i32 r] w fun e w' => e = .returned (.bool (isLetterU r)) ∧ Below w.heap.size w w' :=
  Tryd.unicode_IsLetter_any letterT r w hlo hhi hT.props hT.letter letterT_ok
theorem digit_c (r : Int) (w : World) (hlo : -2147483648 ≤ r) (hhi : r ≤ 2147483647) (hT : UTabs w) :
    Calls Tryd.prog 96 #[.int .i32 r] w fun e w' => e = .returned (.bool (isDigitU r)) ∧ Below w.heap.size w w' :=
  Tryd.unicode_IsDigit_any digitT r w hlo hhi hT.digit digitT_ok
theorem dec_c (s : ByteArray) (k : Nat) (w : World) (hk : k < s.size) (hT : UTabs w) :
    Calls Tryd.prog 62 #[.string (s.extract k s.size)] w fun e w' => e = .returned (.tuple #[.int .i32 ((Utf8.decode s k).1 : Nat), .int .i64 ((Utf8.decode s k).2 : Nat)]) ∧ Below w.heap.size w w' := by
  have h := Tryd.utf8_DecodeRuneInString (s.extract k s.size) w hT.utf
  have e : Lib.decodeGo (s.extract k s.size) = Utf8.decode s k := by
    unfold Lib.decodeGo
    rw [if_neg (by rw [Lib.tail_size]; omega), Lib.tail_decode, Nat.add_zero]
  rw [e] at h
  exact h
theorem decode_max (s : ByteArray) (pos : Nat) : (Utf8.decode s pos).1 ≤ 1114111 := by
  have hb : ∀ k, (s.get! (pos + k)).toNat < 256 := fun k => (s.get! (pos + k)).toNat_lt
  have h0 := hb 0; have h1 := hb 1; have h2 := hb 2; have h3 := hb 3
  simp only [Utf8.decode]
  repeat' split
  all_goals simp_all [Utf8.runeError, Utf8.valid]
  all_goals omega
theorem decodeN_le_n (n b0 b1 b2 b3 : Nat) (hn : 1 ≤ n) : (decodeN n b0 b1 b2 b3).2 ≤ n := by
  unfold decodeN
  repeat' split
  all_goals (simp only; omega)
theorem decode_fits (s : ByteArray) (k : Nat) (h : k < s.size) : 1 ≤ (Utf8.decode s k).2 ∧ k + (Utf8.decode s k).2 ≤ s.size := by
  refine ⟨Lib.decode_width_pos s k h, ?_⟩
  have := decodeN_le_n (s.size - k) (s.get! k).toNat (s.get! (k + 1)).toNat (s.get! (k + 2)).toNat (s.get! (k + 3)).toNat (by omega)
  rw [← Lib.decode_at] at this
  omega
end Go.Proofs.YtmgdlodnhmpbiaaDoor.Tx
