/-
  laws.finite: whether all numbers of a slice are finite.
-/
import Derived.Test.YtkeoakppldheeaaNum
namespace Go.Proofs.Ytkeoakppldheeaa
open Go.RowKit Ieee

/-- A slice of floats that is read. -/
def Flts (w : World) (B : Nat) (A : Option Addr) (n : Nat) (xs : List Nat) : Prop := Reads w B 1 A n (xs.map (Value.float .f64))
theorem Flts.at_ {w : World} {B : Nat} {A : Option Addr} {n : Nat} {xs : List Nat} (h : Flts w B A n xs) {k : Nat} (hk : k < n) :
    ∃ ad, A = some ad ∧ ad.block < B ∧ w.cell? (ad.add k) = some (.float .f64 (xs.getD k 0)) := by
  obtain ⟨ad, u, hA, hb, hx, hc⟩ := Reads.at_ h hk
  refine ⟨ad, hA, hb, ?_⟩
  rw [hc]
  simp only [List.getElem?_map, Option.map_eq_some_iff] at hx
  obtain ⟨s, hs, rfl⟩ := hx
  simp [hs]
theorem Flts.len {w : World} {B : Nat} {A : Option Addr} {n : Nat} {xs : List Nat} (h : Flts w B A n xs) : xs.length = n := by
  simpa using h.1

theorem Reads.ofBlock1 {w : World} {B g : Nat} {x : Nat} {t : TypeId} {fr : Nat × Nat} (h : w.heap[g]? = some (.cells #[.float .f64 x] t fr)) (hg : g < B) : Flts w B (some ⟨g, 0, none⟩) 1 [x] :=
  ⟨rfl, fun _ => ⟨_, rfl, hg, World.news_of_block h⟩⟩
theorem Reads.ofBlock2 {w : World} {B g : Nat} {x y : Nat} {t : TypeId} {fr : Nat × Nat} (h : w.heap[g]? = some (.cells #[.float .f64 x, .float .f64 y] t fr)) (hg : g < B) : Flts w B (some ⟨g, 0, none⟩) 2 [x, y] :=
  ⟨rfl, fun _ => ⟨_, rfl, hg, World.news_of_block h⟩⟩
theorem ret_bool {a b : Bool} (h : a = b) : Ending.returned (.bool a) = .returned (.bool b) := by rw [h]
theorem all_at {xs : List Nat} {k : Nat} (hk : k < xs.length) (h : finB (xs.getD k 0) = false) : xs.all finB = false := by
  rw [List.all_eq_false]
  exact ⟨xs[k], List.getElem_mem _, by simp [hk] at h; simp [h]⟩
theorem all_of {xs : List Nat} (h : ∀ j, j < xs.length → finB (xs.getD j 0) = true) : xs.all finB = true := by
  rw [List.all_eq_true]
  intro x hx
  obtain ⟨j, hj, rfl⟩ := List.getElem_of_mem hx
  have := h j hj
  simpa [hj] using this

set_option maxHeartbeats 400000 in
theorem lawFinite_any (A : Option Addr) (n c : Nat) (xs : List Nat) (B : Nat) (w : World) (h : Flts w B A n xs) (hn : n ≤ 100000) (hx : ∀ x ∈ xs, x < 18446744073709551616) :
    Calls Try.prog 10 #[.slice A n c] w fun e w' => e = .returned (.bool (xs.all finB)) ∧ w = w' := by
  have HL := Lib.hid h.len
  have HH := Lib.hid h
  have HX := Lib.hid hx
  clear h hx
  go_enter Try.func10, Try.ntmps10
  go_wp2
  go_loop [3] (fun i => ∃ k : Nat, k ≤ n ∧ i = .int .i64 k ∧ (∀ j, j < k → finB (xs.getD j 0) = true)) (fun i => n - (intOf i).toNat)
  case atStart => exact ⟨0, Nat.zero_le _, rfl, fun j hj => by omega⟩
  case round =>
    obtain ⟨k, hk, rfl, hall⟩ := hrel
    have HA := Lib.hid hall
    clear hall
    by_cases hlt : k < n
    · obtain ⟨ad, rfl, hb, hc⟩ := HH.out.at_ hlt
      have hsz : xs.getD k 0 < 18446744073709551616 := by
        have hk' : k < xs.length := by rw [HL.out]; exact hlt
        have := HX.out (xs[k]) (List.getElem_mem hk')
        simpa [hk'] using this
      obtain ⟨s, hs⟩ : ∃ s, s = xs.getD k 0 := ⟨_, rfl⟩
      rw [← hs] at hc hsz
      have HE := Lib.hid hs
      clear hs
      cases hf : finB s
      · have HF := Lib.hid hf
        go_wp2_with (go_at_call 14; refine (finite_any s hsz _).mono ?_; rintro e w' ⟨rfl, rfl⟩)
        go_ret
        exact ⟨ret_bool (all_at (k := k) (by rw [HL.out]; exact hlt) (by rw [← HE.out]; exact HF.out)).symm, rfl⟩
      · have HF := Lib.hid hf
        go_wp2_with (go_at_call 14; refine (finite_any s hsz _).mono ?_; rintro e w' ⟨rfl, rfl⟩)
        go_round
        case rel => exact ⟨k + 1, by omega, by go_num, fun j hj => by
          rcases Nat.lt_or_ge j k with h1 | h1
          · exact HA.out j h1
          · obtain rfl : j = k := by omega
            rw [← HE.out]; exact HF.out⟩
        case measure => simp [intOf]; omega
    · obtain rfl : k = n := by omega
      go_wp2
      go_ret
      exact ⟨ret_bool (all_of (by rw [HL.out]; exact HA.out)).symm, rfl⟩
end Go.Proofs.Ytkeoakppldheeaa
