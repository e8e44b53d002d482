/-
  What is asked of the texts of nodes: some answer; nothing is changed.
-/
import Derived.Test.YtdhhdnopilfifaaPrND
namespace Go.Proofs.Ytdhhdnopilfifaa
open Go.RowKit

def AnyB (w : World) (e : Ending) (w' : World) : Prop := (∃ b : Bool, e = .returned (.bool b)) ∧ Below w.heap.size w w'
theorem AnyB.ok {w w' : World} {v : Value} {b : Bool} (h : v = .bool b) (hb : Below w.heap.size w w') : AnyB w (.returned v) w' := ⟨⟨b, by rw [h]⟩, hb⟩
def by_ (s : ByteArray) (i : Nat) : Nat := (s.get! i).toNat
theorem by_eq {s : ByteArray} {i : Nat} (h : i < s.size) : (s[i]'h).toNat = by_ s i := by
  unfold by_
  have : s.get! i = s[i] := by
    show s.data[i]! = s.data[i]
    exact getElem!_pos s.data i h
  rw [this]
theorem by_lt (s : ByteArray) (i : Nat) : by_ s i < 256 := UInt8.toNat_lt _
theorem digit_any (c : Int) (w : World) : Calls Try.prog 34 #[.int .u8 c] w (AnyB w) := by
  by_cases h1 : 48 ≤ c <;> by_cases h2 : c ≤ 57
  all_goals
    go_enter Try.func34, Try.ntmps34
    go_wp2
    go_ret
    exact AnyB.ok rfl (Below.refl _ _)
theorem letter_any (c : Int) (w : World) : Calls Try.prog 48 #[.int .u8 c] w (AnyB w) := by
  by_cases h1 : 97 ≤ c <;> by_cases h2 : c ≤ 122 <;> by_cases h3 : 65 ≤ c <;> by_cases h4 : c ≤ 90 <;> rcases h5 : (c == 95) with _ | _
  all_goals first
    | (exfalso; omega)
    | skip
  all_goals
    go_enter Try.func48, Try.ntmps48
    go_wp2
    go_ret
    exact AnyB.ok rfl (Below.refl _ _)
theorem digits_any (s : ByteArray) (at_ : Nat) (hs : s.size ≤ maxLen) (ha : at_ ≤ s.size) (w : World) :
    Calls Try.prog 33 #[.string s, .int .i64 at_] w (IPost (fun r => ∃ j : Nat, r = j ∧ at_ ≤ j ∧ j ≤ s.size) w) := by
  unfold maxLen at hs
  go_enter Try.func33, Try.ntmps33
  go_wp2_with fail
  go_loopw [1] (fun t wr => ∃ k : Nat, at_ ≤ k ∧ k ≤ s.size ∧ t = .int .i64 k ∧ Hid (Below w.heap.size w wr)) (fun t _ => s.size - (intOf t).toNat)
  case atStart => exact ⟨at_, Nat.le_refl _, ha, rfl, Lib.hid (Below.refl _ _)⟩
  case round =>
    obtain ⟨k, hk1, hk, rfl, HB⟩ := hrel
    by_cases hlt : k < s.size
    · go_wp2_with fail
      refine (digit_any _ wr).mono ?_
      rintro e1 w1 ⟨⟨b, rfl⟩, hb1⟩
      have HB1 := Lib.hid (HB.out.trans (hb1.mono HB.out.size))
      clear hb1
      cases b
      · go_wp2_with fail
        go_ret
        exact ⟨⟨_, rfl, k, rfl, hk1, hk⟩, HB1.out⟩
      · go_wp2_with fail
        go_roundw
        case rel => exact ⟨k + 1, by omega, by omega, by go_num, HB1⟩
        case measure => simp [intOf]; omega
    · obtain rfl : k = s.size := by omega
      go_wp2_with fail
      go_ret
      exact ⟨⟨_, rfl, _, rfl, hk1, hk⟩, HB.out⟩
theorem continued_any (s : ByteArray) (j : Nat) (_hs : s.size ≤ maxLen) (w : World) :
    Calls Try.prog 47 #[.string s, .int .i64 j] w (BPost (j < s.size) w) := by
  unfold maxLen at _hs
  by_cases hlt : j < s.size
  · by_cases h1 : 128 ≤ ((by_ s j : Nat) : Int) <;> by_cases h2 : ((by_ s j : Nat) : Int) ≤ 191
    all_goals
      rw [← by_eq hlt] at h1 h2
      go_enter Try.func47, Try.ntmps47
      go_wp2
      go_ret
      exact BPost.ret rfl (fun _ => by first | exact hlt | trivial) (Below.refl _ _)
  · go_enter Try.func47, Try.ntmps47
    go_wp2
    go_ret
    exact BPost.ret rfl (fun h => by cases h) (Below.refl _ _)
theorem empty_is {s : ByteArray} (h : s.size = 0) : s.toList.isEmpty = true := by
  rw [ByteArray.toList_eq, List.isEmpty_iff]
  exact List.eq_nil_of_length_eq_zero (by rw [Array.length_toList]; exact h)
theorem empty_not {s : ByteArray} (h : s.size ≠ 0) : s.toList.isEmpty = false := by
  rw [ByteArray.toList_eq]
  cases hl : s.data.toList with
  | nil => exact absurd (show s.data.size = 0 by rw [← Array.length_toList, hl]; rfl) h
  | cons a l => rfl
theorem Word_any (s : ByteArray) (hs : s.size ≤ maxLen) (w : World) : Calls Try.prog 36 #[.string s] w (AnyB w) := by
  unfold maxLen at hs
  by_cases h0 : s.size = 0
  · have he := empty_is h0
    go_enter Try.func36, Try.ntmps36
    go_wp2
    go_ret
    exact AnyB.ok rfl (Below.refl _ _)
  · have he := empty_not h0
    have hp : 0 < s.size := by omega
    go_enter Try.func36, Try.ntmps36
    go_wp2_with fail
    refine (letter_any _ w).mono ?_
    rintro e1 w1 ⟨⟨b, rfl⟩, hb1⟩
    have HB1 := Lib.hid hb1
    clear hb1
    cases b
    · go_wp2_with fail
      go_ret
      exact AnyB.ok rfl HB1.out
    · go_wp2_with fail
      go_loopw [3] (fun t wr => ∃ k : Nat, k ≤ s.size ∧ t = .int .i64 k ∧ Hid (Below w.heap.size w wr)) (fun t _ => s.size - (intOf t).toNat)
      case atStart => exact ⟨1, by omega, rfl, HB1⟩
      case round =>
        obtain ⟨k, hk, rfl, HB⟩ := hrel
        by_cases hlt : k < s.size
        · go_wp2_with fail
          refine (letter_any _ wr).mono ?_
          rintro e2 w2 ⟨⟨b2, rfl⟩, hb2⟩
          have HB2 := Lib.hid (HB.out.trans (hb2.mono HB.out.size))
          clear hb2
          cases b2
          · go_wp2_with fail
            refine (digit_any _ w2).mono ?_
            rintro e3 w3 ⟨⟨b3, rfl⟩, hb3⟩
            have HB3 := Lib.hid (HB2.out.trans (hb3.mono HB2.out.size))
            clear hb3
            cases b3
            · go_wp2_with fail
              go_ret
              exact AnyB.ok rfl HB3.out
            · go_wp2_with fail
              go_roundw
              case rel => exact ⟨k + 1, by omega, by go_num, HB3⟩
              case measure => simp [intOf]; omega
          · go_wp2_with fail
            go_roundw
            case rel => exact ⟨k + 1, by omega, by go_num, HB2⟩
            case measure => simp [intOf]; omega
        · obtain rfl : k = s.size := by omega
          go_wp2_with fail
          go_ret
          exact AnyB.ok rfl HB.out
def kws : Array Value := #[.string ⟨#[97, 115, 115, 101, 114, 116]⟩, .string ⟨#[101, 108, 115, 101]⟩, .string ⟨#[101, 114, 114, 111, 114]⟩, .string ⟨#[102, 97, 108, 115, 101]⟩, .string ⟨#[102, 111, 114]⟩, .string ⟨#[102, 117, 110, 99, 116, 105, 111, 110]⟩, .string ⟨#[105, 102]⟩, .string ⟨#[105, 109, 112, 111, 114, 116]⟩, .string ⟨#[105, 109, 112, 111, 114, 116, 98, 105, 110]⟩, .string ⟨#[105, 109, 112, 111, 114, 116, 115, 116, 114]⟩, .string ⟨#[105, 110]⟩, .string ⟨#[108, 111, 99, 97, 108]⟩, .string ⟨#[110, 117, 108, 108]⟩, .string ⟨#[115, 101, 108, 102]⟩, .string ⟨#[115, 117, 112, 101, 114]⟩, .string ⟨#[116, 97, 105, 108, 115, 116, 114, 105, 99, 116]⟩, .string ⟨#[116, 104, 101, 110]⟩, .string ⟨#[116, 114, 117, 101]⟩]
theorem kws_at (k : Nat) (hk : k < 18) : ∃ x : ByteArray, kws[k]? = some (.string x) := by
  unfold kws
  iterate 18 (rcases k with _ | k; · exact ⟨_, rfl⟩)
  omega
theorem Keyword_any (s : ByteArray) (w : World) : Calls Try.prog 37 #[.string s] w (AnyB w) := by
  have hB : Blk (w.alloc (.cells kws 9)) w.heap.size 9 kws := Blk.new w _ _
  have HB0 := Lib.hid (show Below w.heap.size w (w.alloc (.cells kws 9)) from belowS_alloc (Below.refl _ _) _)
  have HB := Lib.hid hB
  clear hB
  go_enter Try.func37, Try.ntmps37
  go_wp2_with fail
  have hW : w.alloc (.cells kws 9) = w.alloc (.cells kws 9) := rfl
  unfold kws at hW
  generalize hW1 : w.alloc (.cells kws 9) = W1 at *
  unfold kws at hW1
  rw [hW1]
  clear hW hW1
  go_loopw [4] (fun t wr => ∃ k : Nat, k ≤ 18 ∧ t = .int .i64 k ∧ wr = W1) (fun t _ => 18 - (intOf t).toNat)
  case atStart => exact ⟨0, by omega, rfl, by first | rfl | trivial⟩
  case round =>
    obtain ⟨k, hk, rfl, rfl⟩ := hrel
    by_cases hlt : k < 18
    · obtain ⟨x, hx⟩ := kws_at k hlt
      have hc := (HB.out.cell k).trans hx
      clear hx
      have hkz : (k : Int) < 18 := by omega
      cases hq : (x.toList == s.toList)
      · go_wp2_with fail
        go_roundw
        case rel => exact ⟨k + 1, by omega, by go_num, by trivial⟩
        case measure => simp [intOf]; omega
      · go_wp2_with fail
        go_ret
        exact AnyB.ok rfl HB0.out
    · obtain rfl : k = 18 := by omega
      go_wp2_with fail
      go_ret
      exact AnyB.ok rfl HB0.out
end Go.Proofs.Ytdhhdnopilfifaa
