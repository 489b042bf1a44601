/- FnTxTemplate: templates that are written for texts, as lists of bytes: what they stand for; a reference in braces as its reader takes it. -/
import Derived.Test.YtmgdlodnhmpbiaaDoorTxfP
namespace Go.Proofs.YtmgdlodnhmpbiaaDoor.Tx
open Go.RowKit Go.Lib Ext
set_option linter.unusedVariables false
/-- A text with each $ in it twice. -/
def plainL : List UInt8 → List UInt8
  | [] => []
  | c :: l => if c = 36 then 36 :: 36 :: plainL l else c :: plainL l
/-- The digits of a number below 100. -/
def decL (n : Nat) : List UInt8 := if n < 10 then [UInt8.ofNat (48 + n)] else [UInt8.ofNat (48 + n / 10), UInt8.ofNat (48 + n % 10)]
/-- A reference to a group. -/
def refL (n : Nat) : List UInt8 := 36 :: 123 :: (decL n ++ [125])
/-- What a template stands for, g being the groups' texts. -/
inductive Ex (g : Nat → List UInt8) : List UInt8 → List UInt8 → Prop
  | fin {t : List UInt8} (h : 36 ∉ t) : Ex g t t
  | dd {b t o : List UInt8} (hb : 36 ∉ b) (h : Ex g t o) : Ex g (b ++ 36 :: 36 :: t) (b ++ 36 :: o)
  | ref {b t o : List UInt8} {n : Nat} (hb : 36 ∉ b) (hn : n < 100) (h : Ex g t o) : Ex g (b ++ (refL n ++ t)) (b ++ (g n ++ o))
theorem ex_item {g : Nat → List UInt8} {n : Nat} {t o : List UInt8} (hn : n < 100) (h : Ex g t o) : ∀ (s b : List UInt8), 36 ∉ b → Ex g (b ++ (plainL s ++ (refL n ++ t))) (b ++ (s ++ (g n ++ o)))
  | [], b, hb => by simpa [plainL] using Ex.ref (g := g) hb hn h
  | c :: s, b, hb => by
    by_cases hc : c = 36
    · subst hc
      have := Ex.dd (g := g) hb (ex_item hn h s [] (by simp))
      simpa [plainL] using this
    · have := ex_item hn h s (b ++ [c]) (by simp; exact ⟨hb, fun e => hc e.symm⟩)
      simpa [plainL, hc] using this
/-- The template of some texts, each with a group's number. -/
def tplL : List (List UInt8 × Nat) → List UInt8
  | [] => []
  | (s, n) :: l => plainL s ++ (refL n ++ tplL l)
def outL (g : Nat → List UInt8) : List (List UInt8 × Nat) → List UInt8
  | [] => []
  | (s, n) :: l => s ++ (g n ++ outL g l)
theorem ex_tpl {g : Nat → List UInt8} : ∀ (l : List (List UInt8 × Nat)), (∀ x ∈ l, x.2 < 100) → Ex g (tplL l) (outL g l)
  | [], _ => Ex.fin (by simp [tplL])
  | (s, n) :: l, h => by
    have := ex_item (g := g) (h (s, n) (by simp)) (ex_tpl l fun x hx => h x (by simp [hx])) s [] (by simp)
    simpa [tplL, outL] using this
theorem tplL_app : ∀ (l : List (List UInt8 × Nat)) (s : List UInt8) (n : Nat), tplL (l ++ [(s, n)]) = tplL l ++ (plainL s ++ refL n)
  | [], s, n => by simp [tplL]
  | (s', n') :: l, s, n => by simp [tplL, tplL_app l]
theorem outL_app (g : Nat → List UInt8) : ∀ (l : List (List UInt8 × Nat)) (s : List UInt8) (n : Nat), outL g (l ++ [(s, n)]) = outL g l ++ (s ++ g n)
  | [], s, n => by simp [outL]
  | (s', n') :: l, s, n => by simp [outL, outL_app g l]
theorem plainL_len : ∀ s : List UInt8, (plainL s).length ≤ 2 * s.length
  | [] => by simp [plainL]
  | c :: s => by
    have := plainL_len s
    simp only [plainL]
    split <;> simp <;> omega
theorem refL_len (n : Nat) : (refL n).length ≤ 5 := by
  unfold refL decL
  split <;> simp
/-- The groups' texts are no longer than G: the whole is no longer than this. -/
theorem outL_len {g : Nat → List UInt8} {G : Nat} (hg : ∀ n, (g n).length ≤ G) : ∀ (l : List (List UInt8 × Nat)), (outL g l).length ≤ (l.map fun x => x.1.length).sum + l.length * G
  | [] => by simp [outL]
  | (s, n) :: l => by
    have h1 := outL_len hg l
    have h2 := hg n
    simp only [outL, List.length_append, List.map_cons, List.sum_cons, List.length_cons, Nat.succ_mul]
    omega
theorem tplL_len : ∀ (l : List (List UInt8 × Nat)), (tplL l).length ≤ 2 * (l.map fun x => x.1.length).sum + 5 * l.length
  | [] => by simp [tplL]
  | (s, n) :: l => by
    have h1 := tplL_len l
    have h2 := plainL_len s
    have h3 := refL_len n
    simp only [tplL, List.length_append, List.map_cons, List.sum_cons, List.length_cons]
    omega
/-! The reader of a reference. -/
theorem get_of_list {s : ByteArray} {l : List UInt8} (h : s.data.toList = l) (k : Nat) (hk : k < l.length) : s.get! k = l[k] := by
  subst h
  have hk' : k < s.data.size := by simpa using hk
  have e : s.get! k = s.data[k]! := rfl
  rw [e, getElem!_pos s.data k hk']
  simp
theorem size_of_list {s : ByteArray} {l : List UInt8} (h : s.data.toList = l) : s.size = l.length := by rw [← h, Array.length_toList]; rfl
theorem ch_byte {s : ByteArray} {k x : Nat} (hx : x < 128) (h : (s.get! k).toNat = x) : Utf8.decode s k = (x, 1) := by
  rw [Lib.decode_at, h]
  simp [Lib.decodeN, hx]
theorem dig_nch : ∀ d : Fin 10, nch ((48 + d.val : Nat) : Int) = true := by decide +kernel
theorem brace_nch : nch ((125 : Nat) : Int) = false := by decide +kernel
theorem nEnd_digs {s : ByteArray} : ∀ (ds : List UInt8) (pre rest : List UInt8), s.data.toList = pre ++ (ds ++ 125 :: rest) → (∀ d ∈ ds, 48 ≤ d.toNat ∧ d.toNat ≤ 57) → ∀ g, ds.length < g → nEnd s g pre.length = pre.length + ds.length
  | [], pre, rest, h, _, g, hg => by
    obtain ⟨g, rfl⟩ : ∃ k, g = k + 1 := ⟨g - 1, by simp at hg; omega⟩
    have hb : (s.get! pre.length).toNat = 125 := by
      rw [get_of_list h pre.length (by simp)]
      simp
    rw [nEnd_no]
    · simp
    · rintro ⟨_, hn⟩
      rw [ch_byte (by omega) hb, brace_nch] at hn
      cases hn
  | d :: ds, pre, rest, h, hd, g, hg => by
    obtain ⟨g, rfl⟩ : ∃ k, g = k + 1 := ⟨g - 1, by simp at hg; omega⟩
    have hsz := size_of_list h
    have hb : (s.get! pre.length).toNat = d.toNat := by
      rw [get_of_list h pre.length (by simp)]
      simp
    have h48 := hd d (by simp)
    have hdec := ch_byte (by omega : d.toNat < 128) hb
    rw [nEnd_yes (by rw [hsz]; simp) (by
      rw [hdec]
      have := dig_nch ⟨d.toNat - 48, by omega⟩
      rwa [show 48 + (d.toNat - 48) = d.toNat by omega] at this), hdec]
    have := nEnd_digs (s := s) ds (pre ++ [d]) rest (by rw [h]; simp) (fun x hx => hd x (by simp [hx])) g (by simp at hg; omega)
    simp only [List.length_append, List.length_cons, List.length_nil] at this ⊢
    rw [this]; omega
theorem decL_dig (n : Nat) (hn : n < 100) : ∀ d ∈ decL n, 48 ≤ d.toNat ∧ d.toNat ≤ 57 := by
  intro d hd
  unfold decL at hd
  split at hd
  · simp at hd; subst hd; simp; omega
  · simp at hd
    rcases hd with rfl | rfl <;> simp <;> omega
theorem finI_decL : ∀ n : Fin 100, finI (decL n.val) = (n.val : Int) := by decide +kernel
theorem txF_ref {s : ByteArray} {n : Nat} (hn : n < 100) {rest : List UInt8} (h : s.data.toList = decL n ++ 125 :: rest) :
    ∃ nm rs : ByteArray, txF s true = some (nm, (n : Int), rs) ∧ rs.data.toList = rest := by
  have hl : 1 ≤ (decL n).length := by unfold decL; split <;> simp
  have hsz := size_of_list h
  have he := nEnd_digs (s := s) (decL n) [] rest (by simpa using h) (decL_dig n hn) (s.size + 1) (by rw [hsz]; simp; omega)
  simp only [List.length_nil, Nat.zero_add] at he
  have hb : (s.get! (decL n).length).toNat = 125 := by
    rw [get_of_list h (decL n).length (by simp)]
    simp
  refine ⟨s.extract 0 (decL n).length, s.extract ((decL n).length + 1) s.size, ?_, ?_⟩
  · unfold txF
    rw [he, if_neg (by omega), if_neg (by
      rintro ⟨_, h2⟩
      exact h2 ⟨by rw [hsz]; simp, hb⟩)]
    have hx : (s.extract 0 (decL n).length).data.toList = decL n := by
      simp [ByteArray.data_extract, h]
    rw [hx, finI_decL ⟨n, hn⟩]
    simp
  · simp [ByteArray.data_extract, hsz, h]
    rw [List.take_of_length_le (by omega)]
end Go.Proofs.YtmgdlodnhmpbiaaDoor.Tx
