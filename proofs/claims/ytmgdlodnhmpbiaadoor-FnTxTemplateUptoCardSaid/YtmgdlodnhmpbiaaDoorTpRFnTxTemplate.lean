/- A reference to a group, as the reference writes it. -/
import Derived.Test.YtmgdlodnhmpbiaaDoorTpEFnTxTemplate
namespace Go.Proofs.YtmgdlodnhmpbiaaDoor.Tx
open Go.RowKit Go.Lib Ext Mem Go.Proofs.YtmgdlodnhmpbiaaDoor.PFnTxTemplate Go.Proofs.YtmgdlodnhmpbiaaDoorW.PrintWords Go.Proofs.YtmgdlodnhmpbiaaDoorW.PrintLast Go.Proofs.YtmgdlodnhmpbiaaDoorW.PrintMore
set_option linter.unusedVariables false
theorem enc_small (r : Int) (h0 : 0 ≤ r) (h1 : r < 128) : (Utf8.encode r).data.toList = [UInt8.ofNat r.toNat] := by
  obtain ⟨k, rfl⟩ : ∃ k : Nat, r = k := ⟨r.toNat, (Int.toNat_of_nonneg h0).symm⟩
  have c1 : k < 128 := by omega
  have v : Utf8.valid (k : Int) = true := by simp [Utf8.valid]; omega
  simp [Utf8.encode, v, c1]
theorem list_app (a b : ByteArray) : (a ++ b).data.toList = a.data.toList ++ b.data.toList := by simp
set_option maxRecDepth 100000 in
set_option maxHeartbeats 4000000 in
theorem ref_c (n : Nat) (hn : n < 100) (w : World) :
    Calls Tryd.prog 10 #[.int .i64 n] w fun e w' => ∃ s, e = .returned (.string s) ∧ s.data.toList = refL n ∧ Below w.heap.size w w' := by
  go_enter Tryd.func10, Tryd.ntmps10
  go_wp2
  go_loopg [0, 3, 4] 4 (fun g s0 s3 s4 wx => ∃ (m mu : Nat) (s : ByteArray) (b : Bool), s0 = .int .i64 m ∧ s3 = .string s ∧ s4 = .bool b ∧ m < 100 ∧ s.size ≤ 3 - mu ∧ mu < g ∧ Hid (b = true → 1 ≤ mu ∧ (10 ≤ m → 2 ≤ mu)) ∧ Hid (wx = w) ∧ Hid ((if b then decL m else []) ++ s.data.toList = decL n ++ [125]))
  case atStart => exact ⟨n, 2, ⟨#[125]⟩, true, rfl, rfl, rfl, hn, by decide, by omega, Lib.hid (fun _ => ⟨by omega, fun _ => by omega⟩), Lib.hid rfl, Lib.hid rfl⟩
  case round =>
    obtain ⟨m, mu, s, b, rfl, rfl, rfl, hm, hsz, hg, HM, HW, HS⟩ := hrel
    obtain ⟨g', rfl⟩ : ∃ g', gk = g' + 1 := ⟨gk - 1, by omega⟩
    cases b
    · go_wp2
      all_goals go_ret
      refine ⟨_, rfl, ?_, by rw [HW.out]; exact Below.refl _ _⟩
      rw [list_app]
      have := HS.out
      simp only [Bool.false_eq_true, if_false, List.nil_append] at this
      rw [this]
      rfl
    · have henc : (Utf8.encode (48 + (m : Int) % 10)).data.toList = [UInt8.ofNat (48 + m % 10)] := by
        rw [enc_small _ (by omega) (by omega)]
        congr 2
      obtain ⟨u, hu⟩ : ∃ u, Utf8.encode (48 + (m : Int) % 10) = u := ⟨_, rfl⟩
      rw [hu] at henc
      have hu1 := size_of_list henc
      have hu2 : u.size ≤ 1 := by rw [hu1]; simp
      have HE := Lib.hid henc; clear henc hu1
      have h1 := HM.out rfl
      by_cases h : m < 10
      · have hd : decide ((0 : Int) < (m : Int) / 10) = false := decide_eq_false (by omega)
        go_wp2
        go_roundg g'
        case rel => exact ⟨m / 10, 0, _, false, by simp, rfl, rfl, by omega, by rw [ByteArray.size_append]; omega, by omega, Lib.hid (fun h => by cases h), HW, Lib.hid (by
          rw [list_app, HE.out, ← HS.out]
          simp [decL, h, show m % 10 = m by omega])⟩
        case measure => omega
      · have hd : decide ((0 : Int) < (m : Int) / 10) = true := decide_eq_true (by omega)
        have h2 := h1.2 (by omega)
        go_wp2
        go_roundg g'
        case rel => exact ⟨m / 10, 1, _, true, by simp, rfl, rfl, by omega, by rw [ByteArray.size_append]; omega, by omega, Lib.hid (fun h => ⟨by omega, fun h => by omega⟩), HW, Lib.hid (by
          rw [list_app, HE.out, ← HS.out]
          simp [decL, h, show m / 10 < 10 by omega])⟩
        case measure => omega
end Go.Proofs.YtmgdlodnhmpbiaaDoor.Tx
