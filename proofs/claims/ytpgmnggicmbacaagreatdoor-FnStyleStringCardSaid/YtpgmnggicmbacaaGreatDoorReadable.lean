/-
  spec.Readable: it ends; where it says yes, the text is UTF-8.
-/
import Derived.Test.YtpgmnggicmbacaaGreatDoorPointN
namespace Go.Proofs.YtpgmnggicmbacaaGreatDoor
open Go.RowKit

/-- These are the code points of the text up to a place. -/
inductive Pts (s : ByteArray) : Nat → List Nat → Prop
  | nil : Pts s 0 []
  | snoc {i r n : Nat} {l : List Nat} (h : Pts s i l) (hp : PtOk s i r n) : Pts s (i + n) (l ++ [r])
/-- What Readable answers. -/
def RdPost (s : ByteArray) (w : World) (e : Ending) (w' : World) : Prop := (∃ b : Bool, e = .returned (.bool b) ∧ (b = true → ∃ l, Pts s s.size l)) ∧ w = w'

set_option maxRecDepth 100000 in
set_option maxHeartbeats 1600000 in
theorem readable_any (s : ByteArray) (hs : s.size ≤ 2147483647) (w : World) :
    Calls Tryz.prog 4 #[.string s] w (RdPost s w) := by
  go_enter Tryz.func4, Tryz.ntmps4
  go_wp2_with fail
  go_loopw [3] (fun t wr => ∃ (j : Nat) (l : List Nat), j ≤ s.size ∧ t = .int .i64 j ∧ wr = w ∧ Hid (Pts s j l)) (fun t _ => s.size - (intOf t).toNat)
  case atStart => exact ⟨0, [], Nat.zero_le _, rfl, by trivial, Lib.hid .nil⟩
  case round =>
    obtain ⟨j, l, hj, rfl, rfl, HP0⟩ := hrel
    by_cases hlt : j < s.size
    · go_wp2_with fail
      refine (point_any s j hlt hs _).mono ?_
      rintro e w1 ⟨⟨r, n, rfl, hrn⟩, rfl⟩
      rcases Nat.eq_zero_or_pos n with h0 | h0
      · subst h0
        clear hrn
        go_wp2_with fail
        go_ret
        exact ⟨⟨false, rfl, fun h => by cases h⟩, rfl⟩
      · have hp : PtOk s j r n := by
          rcases hrn with h | h
          · omega
          · exact h
        have hnn : ((n : Int) == 0) = false := by simp; omega
        have hjn : j + n ≤ s.size := hp.2.1
        have HP := Lib.hid hp
        clear hrn hp
        rcases hr0 : ((r : Int) == 0) with _ | _
        · rcases hr1 : ((r : Int) == 65279) with _ | _
          · go_wp2_with fail
            go_roundw
            case rel => exact ⟨j + n, l ++ [r], hjn, by go_num, by trivial, Lib.hid (.snoc HP0.out HP.out)⟩
            case measure => simp [intOf]; omega
          · go_wp2_with fail
            go_ret
            exact ⟨⟨false, rfl, fun h => by cases h⟩, rfl⟩
        · go_wp2_with fail
          go_ret
          exact ⟨⟨false, rfl, fun h => by cases h⟩, rfl⟩
    · obtain rfl : j = s.size := by omega
      go_wp2_with fail
      go_ret
      exact ⟨⟨true, rfl, fun _ => ⟨l, HP0.out⟩⟩, rfl⟩
end Go.Proofs.YtpgmnggicmbacaaGreatDoor
