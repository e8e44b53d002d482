/-
  White space read, in plain Lean; spec.SpaceRead walked.
-/
import Derived.Test.YtpgmnggicmbacaaDoorProg
import Derived.Test.YtpgmnggicmbacaaDoorWords
import Derived.IntWalk
import Derived.WalkKit
import Derived.BigCall
namespace Go.Proofs.YtpgmnggicmbacaaDoor
open Go.RowKit

/-- The byte at a place, as a number; 0 past the end. -/
def byteN (s : ByteArray) (pos : Nat) : Nat := if h : pos < s.size then (s[pos]'h).toNat else 0
/-- White space from a place on: lines, indent, where it ends. -/
def spaceF (s : ByteArray) : Nat → Nat → Nat → Nat → Nat × Nat × Nat
  | 0, pos, l, i => (l, i, pos)
  | fuel + 1, pos, l, i =>
    if pos < s.size then
      if byteN s pos = 10 then spaceF s fuel (pos + 1) (l + 1) 0
      else if byteN s pos = 32 then spaceF s fuel (pos + 1) l (i + 1)
      else if byteN s pos = 9 then spaceF s fuel (pos + 1) l (i + 8)
      else if byteN s pos = 13 then spaceF s fuel (pos + 1) l i
      else (l, i, pos)
    else (l, i, pos)
def spaceR (s : ByteArray) : Nat × Nat × Nat := spaceF s s.size 0 0 0
set_option maxRecDepth 100000 in
set_option maxHeartbeats 1600000 in
theorem spec_SpaceRead_any (s : ByteArray) (hs : s.size ≤ 1000000) (w : World) :
    Calls Tryd.prog 7 #[.string s] w fun e w' => e = .returned (.tuple #[.int .i64 ((spaceR s).1 : Nat), .int .i64 ((spaceR s).2.1 : Nat), .int .i64 ((spaceR s).2.2 : Nat)]) ∧ w = w' := by
  go_enter Tryd.func7, Tryd.ntmps7
  go_wp2_with fail
  go_loopw [2, 3, 4] (fun l i t wr => ∃ pos li ii fuel : Nat, l = .int .i64 li ∧ i = .int .i64 ii ∧ t = .int .i64 pos ∧ wr = w ∧ Hid (spaceF s fuel pos li ii = spaceR s) ∧ s.size ≤ pos + fuel ∧ pos ≤ s.size ∧ li ≤ pos ∧ ii ≤ 8 * pos) (fun _ _ t _ => s.size - (intOf t).toNat)
  case atStart => exact ⟨0, 0, 0, s.size, rfl, rfl, rfl, by trivial, Lib.hid rfl, by omega, by omega, by omega, by omega⟩
  case round =>
    obtain ⟨pos, li, ii, fuel, rfl, rfl, rfl, rfl, HR, h1, h2, h3, h4⟩ := hrel
    by_cases hlt : pos < s.size
    · obtain ⟨q, rfl⟩ : ∃ q, fuel = q + 1 := ⟨fuel - 1, by omega⟩
      have hb : byteN s pos = (s[pos]'hlt).toNat := dif_pos hlt
      have HB := Lib.hid hb
      clear hb
      go_wp2_with fail
      all_goals have hb := HB.out
      all_goals have hr := HR.out
      all_goals simp only [beq_iff_eq, beq_eq_false_iff_ne] at *
      all_goals first
        | (refine ⟨⟨pos + 1, li + 1, 0, q, by go_num, by go_num, by go_num, by trivial, Lib.hid ?_, by omega, by omega, by omega, by omega⟩, by simp [intOf]; omega⟩; rw [← hr]; conv => rhs; rw [spaceF, if_pos hlt, hb]
           repeat' split
           all_goals first | rfl | omega)
        | (refine ⟨⟨pos + 1, li, ii + 1, q, by go_num, by go_num, by go_num, by trivial, Lib.hid ?_, by omega, by omega, by omega, by omega⟩, by simp [intOf]; omega⟩; rw [← hr]; conv => rhs; rw [spaceF, if_pos hlt, hb]
           repeat' split
           all_goals first | rfl | omega)
        | (refine ⟨⟨pos + 1, li, ii + 8, q, by go_num, by go_num, by go_num, by trivial, Lib.hid ?_, by omega, by omega, by omega, by omega⟩, by simp [intOf]; omega⟩; rw [← hr]; conv => rhs; rw [spaceF, if_pos hlt, hb]
           repeat' split
           all_goals first | rfl | omega)
        | (refine ⟨⟨pos + 1, li, ii, q, by go_num, by go_num, by go_num, by trivial, Lib.hid ?_, by omega, by omega, by omega, by omega⟩, by simp [intOf]; omega⟩; rw [← hr]; conv => rhs; rw [spaceF, if_pos hlt, hb]
           repeat' split
           all_goals first | rfl | omega)
        | skip
      have e : spaceR s = (li, ii, pos) := by
        rw [← hr, spaceF, if_pos hlt, hb]
        repeat' split
        all_goals first | rfl | omega
      rw [e]
      go_ret3
      exact ⟨rfl, rfl⟩
    · have hr := HR.out
      have e : spaceR s = (li, ii, pos) := by
        rw [← hr]
        cases fuel
        · rfl
        · rw [spaceF, if_neg hlt]
      go_wp2_with fail
      go_ret3
      rw [e]
      exact ⟨rfl, rfl⟩
end Go.Proofs.YtpgmnggicmbacaaDoor
