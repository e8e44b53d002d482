/-
  spec.point in the walk: what it answers; it changes nothing.
-/
import Derived.Test.YtpgmnggicmbacaaGreatDoorUtf
namespace Go.Proofs.YtpgmnggicmbacaaGreatDoor
open Go.RowKit

/-- What point answers: no code point, or the one that the language reads there. -/
def PtRes (s : ByteArray) (i : Nat) (w : World) (e : Ending) (w' : World) : Prop :=
  (∃ r n : Nat, e = .returned (.tuple #[.int .i64 r, .int .i64 n]) ∧ (n = 0 ∨ PtOk s i r n)) ∧ w = w'

theorem accf_step (s : ByteArray) (i r0 k : Nat) (hk : 1 ≤ k) : accf s i r0 (k + 1) = accf s i r0 k * 64 + (by_ s (i + k) - 128) := by
  obtain ⟨m, rfl⟩ : ∃ m, k = m + 1 := ⟨k - 1, by omega⟩
  rfl

set_option maxRecDepth 100000 in
set_option maxHeartbeats 1600000 in
theorem point_one (s : ByteArray) (i : Nat) (hi : i < s.size) (_hs : s.size ≤ 2147483647) (w : World) (hc : by_ s i < 128) :
    Calls Tryz.prog 8 #[.string s, .int .i64 i] w fun e w' => PtRes s i w e w' := by
  have hb := by_eq hi
  have h2 : (s[i]'hi).toNat < 128 := by rw [hb]; exact hc
  have HB := Lib.hid hb
  have HC := Lib.hid hc
  clear hb hc
  go_enter Tryz.func8, Tryz.ntmps8
  go_wp2
  go_ret2
  exact ⟨⟨(s[i]'hi).toNat, 1, rfl, .inr (by rw [HB.out]; exact decode1 hi HC.out)⟩, rfl⟩

set_option maxRecDepth 100000 in
set_option maxHeartbeats 1600000 in
theorem point_bad (s : ByteArray) (i : Nat) (hi : i < s.size) (_hs : s.size ≤ 2147483647) (w : World) (hc : 128 ≤ by_ s i ∧ by_ s i < 192 ∨ 248 ≤ by_ s i) :
    Calls Tryz.prog 8 #[.string s, .int .i64 i] w fun e w' => PtRes s i w e w' := by
  have hb := by_eq hi
  have h0 : (s[i]'hi).toNat < 256 := by rw [hb]; exact by_lt s i
  rw [← hb] at hc
  clear hb
  rcases hc with ⟨h1, h2⟩ | h1
  all_goals
    go_enter Tryz.func8, Tryz.ntmps8
    go_wp2
    go_ret2
    exact ⟨⟨0, 0, rfl, .inl rfl⟩, rfl⟩

end Go.Proofs.YtpgmnggicmbacaaGreatDoor
