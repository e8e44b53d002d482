/-
  sameElement: of two elements that say the same it answers true.
-/
import Derived.Test.YthinfliplpjdjaaElements
import Derived.Deep.QuietTactic
import Derived.BigQuiet
namespace Go.Proofs.Ythinfliplpjdjaa
open Go.RowKit

theorem below_drewN {B : Nat} {a w : World} (h : Below B a w) (n : Nat) : Below B a (w.drewN n) := ⟨h.os, h.tape, h.output, h.size, h.block⟩

set_option maxRecDepth 100000 in
set_option maxHeartbeats 800000 in
theorem sameElement_true (k b i : Int) (A1 A2 : Option Addr) (n c1 c2 : Nat) (cs : List ByteArray) (B : Nat) (w : World) (h1 : Strs w B A1 n cs) (h2 : Strs w B A2 n cs) (hB : B ≤ w.heap.size) (hn : n ≤ 2147483647) :
    Calls Try.prog 12 #[.agg #[.int .i64 k, .int .i64 b, .int .i64 i, .slice A1 n c1], .agg #[.int .i64 k, .int .i64 b, .int .i64 i, .slice A2 n c2]] w fun e w' => e = .returned (.bool true) ∧ Below w.heap.size w w' := by
  have H1 := Lib.hid h1
  have H2 := Lib.hid h2
  clear h1 h2
  go_enter Try.func12, Try.ntmps12
  go_wp2
  go_loopw [5] (fun t wr => ∃ j : Nat, j ≤ n ∧ t = .int .i64 j ∧ Below (w.heap.size + 2) ((w.alloc (.cells #[.int .i64 k, .int .i64 b, .int .i64 i, .slice A1 n c1] 24)).alloc (.cells #[.int .i64 k, .int .i64 b, .int .i64 i, .slice A2 n c2] 24)) wr) (fun t _ => n - (intOf t).toNat)
  case atStart => exact ⟨0, Nat.zero_le _, rfl, Below.refl _ _⟩
  case round =>
    obtain ⟨j, hj, rfl, hbel⟩ := hrel
    have x1 : wr.cell? ⟨w.heap.size, 3, none⟩ = some (.slice A1 n c1) := (hbel.cell (p := ⟨w.heap.size, 3, none⟩) (by show w.heap.size < _; omega)).trans (by simp [go_sem])
    have x2 : wr.cell? ⟨w.heap.size + 1, 3, none⟩ = some (.slice A2 n c2) := (hbel.cell (p := ⟨w.heap.size + 1, 3, none⟩) (by show w.heap.size + 1 < _; omega)).trans (by simp [go_sem])
    have HB := Lib.hid hbel
    clear hbel
    by_cases hlt : j < n
    · obtain ⟨ad1, rfl, hb1, hc1⟩ := H1.out.at_ hlt
      obtain ⟨ad2, rfl, hb2, hc2⟩ := H2.out.at_ hlt
      have hsz : w.heap.size + 2 ≤ wr.heap.size := by have := HB.out.size; simpa using this
      have d1 : wr.cell? (ad1.add j) = some (.string (cs.getD j ByteArray.empty)) := (HB.out.cell (p := ad1.add j) (by rw [block_of_add]; omega)).trans (((H1.out.alloc hB _).alloc (by simp; omega) _).cell hlt).2
      have d2 : wr.cell? (ad2.add j) = some (.string (cs.getD j ByteArray.empty)) := (HB.out.cell (p := ad2.add j) (by rw [block_of_add]; omega)).trans (((H2.out.alloc hB _).alloc (by simp; omega) _).cell hlt).2
      clear hc1 hc2
      generalize cs.getD j ByteArray.empty = s at d1 d2
      have i0 : (0 : Int) ≤ (j : Int) := by omega
      have i1 : (j : Int) < (n : Int) := by omega
      go_wp2
      go_quiet (fail)
      go_wp2
      go_roundw
      case rel => exact ⟨j + 1, by omega, by go_num, by first | exact HB.out | exact below_drewN HB.out _⟩
      case measure => simp [intOf]; omega
    · obtain rfl : j = n := by omega
      go_wp2
      go_ret
      exact ⟨rfl, (((Below.refl _ _).alloc (Nat.le_refl _) _).alloc (by simp) _).trans (HB.out.mono (by omega))⟩
end Go.Proofs.Ythinfliplpjdjaa
