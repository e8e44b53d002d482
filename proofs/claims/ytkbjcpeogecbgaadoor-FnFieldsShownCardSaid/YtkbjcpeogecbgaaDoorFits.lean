/-
  The size guards zzFits5 and zzFits8: what they answer; they change nothing.
-/
import Derived.Test.YtkbjcpeogecbgaaDoorRows
import Derived.Test.YtkbjcpeogecbgaaDoorWords
import Derived.Outline
namespace Go.Proofs.YtkbjcpeogecbgaaDoor
open Go.RowKit

/-- A slice value of strings. -/
def Strs (w : World) (B : Nat) (A : Option Addr) (n : Nat) (ss : List ByteArray) : Prop := Reads w B 1 A n (ss.map Value.string)

def fits5 (ss : List ByteArray) : Bool := decide (ss.length ≤ 2147483647) && ss.all fun s => decide (s.size ≤ 2147483647)

theorem Strs.at_ {w : World} {B : Nat} {A : Option Addr} {n : Nat} {ss : List ByteArray} (h : Strs w B A n ss) {k : Nat} (hk : k < n) :
    ∃ ad, A = some ad ∧ ad.block < B ∧ w.cell? (ad.add k) = some (.string (ss.getD k ByteArray.empty)) := by
  obtain ⟨ad, u, hA, hb, hx, hc⟩ := Reads.at_ h hk
  refine ⟨ad, hA, hb, ?_⟩
  rw [hc]
  simp only [List.getElem?_map, Option.map_eq_some_iff] at hx
  obtain ⟨s, hs, rfl⟩ := hx
  simp [hs]

theorem Strs.cell {w : World} {B : Nat} {ad : Addr} {n : Nat} {ss : List ByteArray} (h : Strs w B (some ad) n ss) {k : Nat} (hk : k < n) :
    ad.block < B ∧ w.cell? (ad.add k) = some (.string (ss.getD k ByteArray.empty)) := by
  obtain ⟨ad', hA, hb, hc⟩ := h.at_ hk
  obtain rfl := Option.some.inj hA
  exact ⟨hb, hc⟩
theorem Strs.len {w : World} {B : Nat} {A : Option Addr} {n : Nat} {ss : List ByteArray} (h : Strs w B A n ss) : ss.length = n := by
  simpa using h.1

theorem fits5_false_len {ss : List ByteArray} (h : 2147483647 < ss.length) : fits5 ss = false := by
  have : ¬ ss.length ≤ 2147483647 := by omega
  simp [fits5, this]
theorem fits5_false_at {ss : List ByteArray} {k : Nat} (hk : k < ss.length) (h : 2147483647 < (ss.getD k ByteArray.empty).size) : fits5 ss = false := by
  have : ss[k]'hk ∈ ss := List.getElem_mem _
  simp only [fits5, Bool.and_eq_false_iff]
  right
  rw [List.all_eq_false]
  refine ⟨_, this, ?_⟩
  simp [hk] at h
  simp only [decide_eq_true_eq]
  omega
theorem fits5_true {ss : List ByteArray} (h : ss.length ≤ 2147483647) (hall : ∀ j, j < ss.length → (ss.getD j ByteArray.empty).size ≤ 2147483647) : fits5 ss = true := by
  simp only [fits5, Bool.and_eq_true, decide_eq_true_eq, List.all_eq_true]
  refine ⟨h, fun s hs => ?_⟩
  obtain ⟨j, hj, rfl⟩ := List.getElem_of_mem hs
  have := hall j hj
  simpa [hj] using this

theorem ret_bool {a b : Bool} (h : a = b) : Ending.returned (.bool a) = .returned (.bool b) := by rw [h]

set_option maxHeartbeats 400000 in
theorem zzFits5_any (A : Option Addr) (n c : Nat) (ss : List ByteArray) (B : Nat) (w : World) (h : Strs w B A n ss) (hn : n ≤ maxLen) (hs : ∀ s ∈ ss, s.size ≤ maxLen) :
    Calls Tryd.prog 22 #[.slice A n c] w fun e w' => e = .returned (.bool (fits5 ss)) ∧ w = w' := by
  unfold maxLen at hn hs
  have hl := h.len
  by_cases hbig : 2147483647 < n
  · have HF := Lib.hid (fits5_false_len (ss := ss) (by omega))
    clear hl
    go_enter Tryd.func22, Tryd.ntmps22
    go_wp2
    go_ret
    exact ⟨ret_bool HF.out.symm, rfl⟩
  · have HL := Lib.hid hl
    have HS := Lib.hid hs
    have HH := Lib.hid h
    clear hl hs h
    go_enter Tryd.func22, Tryd.ntmps22
    go_wp2
    go_loop [10] (fun i => ∃ k : Nat, k ≤ n ∧ i = .int .i64 k ∧ (∀ j, j < k → (ss.getD j ByteArray.empty).size ≤ 2147483647)) (fun i => n - (intOf i).toNat)
    case atStart => exact ⟨0, Nat.zero_le _, rfl, fun j hj => by omega⟩
    case round =>
      obtain ⟨k, hk, rfl, hall⟩ := hrel
      have HA := Lib.hid hall
      clear hall
      by_cases hlt : k < n
      · obtain ⟨ad, rfl, hb, hc⟩ := HH.out.at_ hlt
        have hsz : (ss.getD k ByteArray.empty).size ≤ 9223372036854775807 := by
          have := HS.out (ss[k]'(by rw [HL.out]; exact hlt)) (List.getElem_mem _)
          simp [HL.out, hlt]; omega
        obtain ⟨s, hs⟩ : ∃ s, s = ss.getD k ByteArray.empty := ⟨_, rfl⟩
        rw [← hs] at hc hsz
        have HE := Lib.hid hs
        clear hs
        go_wp2
        · go_ret
          exact ⟨ret_bool (fits5_false_at (k := k) (by rw [HL.out]; exact hlt) (by rw [← HE.out]; omega)).symm, rfl⟩
        · go_round
          case rel => exact ⟨k + 1, by omega, by go_num, fun j hj => by
            rcases Nat.lt_or_ge j k with h1 | h1
            · exact HA.out j h1
            · obtain rfl : j = k := by omega
              rw [← HE.out]; omega⟩
          case measure => simp [intOf]; omega
      · obtain rfl : k = n := by omega
        go_wp2
        go_ret
        exact ⟨ret_bool (fits5_true (by rw [HL.out]; omega) (by rw [HL.out]; exact HA.out)).symm, rfl⟩
end Go.Proofs.YtkbjcpeogecbgaaDoor
