/-
  The language's lexer: opening, isLetter, isDigit, add.
-/
import Derived.Test.YtpgmnggicmbacaaDoorSyGap
import Derived.Test.YtpgmnggicmbacaaDoorSyLoc
namespace Go.Proofs.YtpgmnggicmbacaaDoor
open Go.Shelf Go.RowKit
set_option linter.unusedVariables false
set_option linter.unusedSimpArgs false

set_option maxRecDepth 100000 in
theorem letterOp_no (c : Nat) (h : opB c = true) (w : World) : Calls Tryd.prog 50 #[.int .u8 c] w fun e w' => e = .returned (.bool false) ∧ w = w' := by
  have hc : c = 33 ∨ c = 36 ∨ c = 58 ∨ c = 126 ∨ c = 43 ∨ c = 45 ∨ c = 38 ∨ c = 124 ∨ c = 94 ∨ c = 61 ∨ c = 60 ∨ c = 62 ∨ c = 42 ∨ c = 47 ∨ c = 37 := by
    unfold opB at h
    simpa [or_assoc] using h
  clear h
  rcases hc with rfl | rfl | rfl | rfl | rfl | rfl | rfl | rfl | rfl | rfl | rfl | rfl | rfl | rfl | rfl
  all_goals
    go_enter Tryd.func50, Tryd.ntmps50
    go_wp2_with fail
    go_ret
    exact ⟨rfl, rfl⟩
set_option maxRecDepth 100000 in
theorem digitOp_no (c : Nat) (h : opB c = true) (w : World) : Calls Tryd.prog 51 #[.int .u8 c] w fun e w' => e = .returned (.bool false) ∧ w = w' := by
  have hc : c = 33 ∨ c = 36 ∨ c = 58 ∨ c = 126 ∨ c = 43 ∨ c = 45 ∨ c = 38 ∨ c = 124 ∨ c = 94 ∨ c = 61 ∨ c = 60 ∨ c = 62 ∨ c = 42 ∨ c = 47 ∨ c = 37 := by
    unfold opB at h
    simpa [or_assoc] using h
  clear h
  rcases hc with rfl | rfl | rfl | rfl | rfl | rfl | rfl | rfl | rfl | rfl | rfl | rfl | rfl | rfl | rfl
  all_goals
    go_enter Tryd.func51, Tryd.ntmps51
    go_wp2_with fail
    go_ret
    exact ⟨rfl, rfl⟩
def OpPost (v : Bool) (w : World) (e : Ending) (w' : World) : Prop := e = .returned (.tuple #[.int .i64 (if v then 5 else 0), .int .i64 (if v then 3 else 0)]) ∧ Below w.heap.size w w'
set_option maxRecDepth 100000 in
set_option maxHeartbeats 1600000 in
theorem opening_any (b : Nat) (s : ByteArray) (out : Value) (bad uns : Bool) (hs : s.size ≤ 1000000) (h0 : Sym0 s) (w : World) (h : Lx w b s 0 out bad uns) :
    Calls Tryd.prog 46 #[.pointer (some ⟨b, 0, none⟩)] w (OpPost (bars (by_ s) s.size 0) w) := by
  obtain ⟨hlt, hop⟩ := h0
  obtain ⟨-, -, -, -, -, n34, n39, n64, -⟩ := opB_not hop
  have e1 : stG s ⟨#[34]⟩ 0 = false := by
    rw [show (⟨#[34]⟩ : ByteArray) = ⟨#[UInt8.ofNat 34]⟩ from rfl, stG1 s 0 34 (by omega)]
    simp [n34]
  have e2 : stG s ⟨#[39]⟩ 0 = false := by
    rw [show (⟨#[39]⟩ : ByteArray) = ⟨#[UInt8.ofNat 39]⟩ from rfl, stG1 s 0 39 (by omega)]
    simp [n39]
  have e3 : stG s ⟨#[64, 34]⟩ 0 = false := by
    rw [show (⟨#[64, 34]⟩ : ByteArray) = ⟨#[UInt8.ofNat 64, UInt8.ofNat 34]⟩ from rfl, stG2 s 0 64 34 (by omega) (by omega)]
    unfold two
    simp [n64]
  have e4 : stG s ⟨#[64, 39]⟩ 0 = false := by
    rw [show (⟨#[64, 39]⟩ : ByteArray) = ⟨#[UInt8.ofNat 64, UInt8.ofNat 39]⟩ from rfl, stG2 s 0 64 39 (by omega) (by omega)]
    unfold two
    simp [n64]
  have e5 := stG3 s 0
  have E1 := Lib.hid e1
  have E2 := Lib.hid e2
  have E3 := Lib.hid e3
  have E4 := Lib.hid e4
  have E5 := Lib.hid e5
  have HL := Lib.hid h
  generalize bars (by_ s) s.size 0 = v at *
  clear e1 e2 e3 e4 e5 hop n34 n39 n64 h
  go_enter Tryd.func46, Tryd.ntmps46
  go_wp2_with fail
  refine (hereG b s _ 0 out bad uns hs (by show 1 ≤ _; omega) (by omega) _ HL.out).mono ?_
  rintro e1 w1 ⟨rfl, hb1⟩
  rw [E1.out]
  have HB1 := Lib.hid hb1
  clear hb1
  go_wp2_with fail
  refine (hereG b s _ 0 out bad uns hs (by show 1 ≤ _; omega) (by omega) _ (HL.out.below HB1.out)).mono ?_
  rintro e2 w2 ⟨rfl, hb2⟩
  rw [E2.out]
  have HB2 := Lib.hid (HB1.out.trans (hb2.mono HB1.out.size))
  clear hb2
  go_wp2_with fail
  refine (hereG b s _ 0 out bad uns hs (by show 2 ≤ _; omega) (by omega) _ (HL.out.below HB2.out)).mono ?_
  rintro e3 w3 ⟨rfl, hb3⟩
  rw [E3.out]
  have HB3 := Lib.hid (HB2.out.trans (hb3.mono HB2.out.size))
  clear hb3
  go_wp2_with fail
  refine (hereG b s _ 0 out bad uns hs (by show 2 ≤ _; omega) (by omega) _ (HL.out.below HB3.out)).mono ?_
  rintro e4 w4 ⟨rfl, hb4⟩
  rw [E4.out]
  have HB4 := Lib.hid (HB3.out.trans (hb4.mono HB3.out.size))
  clear hb4
  go_wp2_with fail
  refine (hereG b s _ 0 out bad uns hs (by show 3 ≤ _; omega) (by omega) _ (HL.out.below HB4.out)).mono ?_
  rintro e5 w5 ⟨rfl, hb5⟩
  rw [E5.out]
  have HB5 := Lib.hid (HB4.out.trans (hb5.mono HB4.out.size))
  clear hb5 E5
  cases v
  · go_wp2_with fail
    go_ret2
    exact ⟨rfl, HB5.out⟩
  · go_wp2_with fail
    go_ret2
    exact ⟨rfl, HB5.out⟩
end Go.Proofs.YtpgmnggicmbacaaDoor
