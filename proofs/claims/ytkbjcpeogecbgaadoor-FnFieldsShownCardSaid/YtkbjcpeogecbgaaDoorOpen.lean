/-
  Arguments opened: a slice of strings that came in, as the walks ask it.
-/
import Derived.Test.YtkbjcpeogecbgaaDoorFits
import Derived.ProofKit
import Derived.OpenShut
import Derived.ShutString
import Derived.ChangeOld
import Derived.SliceStrings
import Derived.Lib.SmallJoins
import Derived.Carry
namespace Go.Proofs.YtkbjcpeogecbgaaDoor
open Go.ChangeShapes Go.WideShapes Go.ChangeAt Go.RowKit
open Go.ChangeMaps (open_string shut_string)

theorem own : ownKnob Tryd.prog.godebug = none := by kernel_rfl
theorem laidOut : laidOutB Tryd.prog = true := by kernel_rfl

section
variable {H : Type} {enc : TypeId × Value → H} {P : Program} {w : World} {spare : Nat → Bool} {held : Bool} {fuel : Nat} {cs : List Value} {x : DataW H × List MemPlace}
theorem strs_of_trod {t e : TypeId} (ht : P.underlying t = some (.slice e)) (he : P.underlying e = some .string) (hc : P.cellsOf e = 1) (h : DataW.trod enc P w 0 spare held fuel t cs = some x) :
    ∃ A n c ss, cs = [.slice A n c] ∧ n ≤ c ∧ c ≤ maxLen ∧ Strs w w.heap.size A n ss ∧ ∀ s ∈ ss, s.size ≤ maxLen := by
  rcases open_strings ht he hc h with ⟨rfl, _⟩ | ⟨a, len, cap, ss, rfl, _, hl, hm, hlen, _, hcell, hsz⟩
  · exact ⟨none, 0, 0, [], rfl, Nat.le_refl _, by decide, Reads.none_, fun s hs => by cases hs⟩
  · refine ⟨some a, len, cap, ss.take len, rfl, hl, hm, ⟨?_, fun hp => ⟨a, rfl, ?_, ?_⟩⟩, fun s hs => hsz s (List.mem_of_mem_take hs)⟩
    · have : len ≤ ss.length := by rw [hlen]; split <;> omega
      simp [Nat.min_eq_left this]
    · have h0 := hcell 0 (by rw [hlen]; split <;> omega)
      have := World.block_lt_of_cell? w _ h0
      rwa [block_of_add] at this
    · intro j u hu
      simp only [List.getElem?_map, Option.map_eq_some_iff] at hu
      obtain ⟨s, hs, rfl⟩ := hu
      have hj : j < len := by
        rw [List.getElem?_take] at hs
        split at hs
        · assumption
        · cases hs
      have hjl : j < ss.length := by rw [hlen]; split <;> omega
      rw [hcell j hjl]
      have : ss[j]? = some s := by rw [List.getElem?_take, if_pos hj] at hs; exact hs
      simp [this]
end
end Go.Proofs.YtkbjcpeogecbgaaDoor
