/-
  Arguments that are slices of strings or of truths, opened.
-/
import Derived.Test.YthinfliplpjdjaaOpen
import Derived.Test.YthinfliplpjdjaaParams
import Derived.Deep.Slices
namespace Go.Proofs.Ythinfliplpjdjaa
open Go.ChangeShapes Go.WideShapes Go.ChangeAt Go.RowKit Go.Joins
open Go.ChangeMaps (open_string shut_string)
section
variable {H : Type} {enc : TypeId × Value → H} {P : Program} {w : World} {spare : Nat → Bool} {held : Bool} {fuel : Nat} {cs : List Value} {x : DataW H × List MemPlace}
theorem trod_bool {t : TypeId} (ht : P.underlying t = some .bool) {base : Nat} (h : DataW.trod enc P w base spare held fuel t cs = some x) : ∃ b, cs = [.bool b] := by
  cases fuel with
  | zero => simp [DataW.trod] at h
  | succ n =>
    unfold DataW.trod at h
    rw [ht] at h
    split at h <;> simp_all
theorem bools_of_trod {t e : TypeId} (ht : P.underlying t = some (.slice e)) (he : P.underlying e = some .bool) (hc : P.cellsOf e = 1) (h : DataW.trod enc P w 0 spare held fuel t cs = some x) :
    ∃ A n c xs, cs = [.slice A n c] ∧ n ≤ maxLen ∧ Bools w w.heap.size A n xs := by
  rcases Go.Deep.open_slice ht h with ⟨rfl, _⟩ | ⟨a, len, cap, m, n, D, Pl, rfl, _, hl, hm, hmm, _, hi⟩
  · exact ⟨none, 0, 0, [], rfl, by omega, Reads.none_⟩
  · have hlm : len ≤ m := by rw [hmm]; split <;> omega
    have key : ∀ i, i < len → ∃ b, w.cell? (a.add i) = some (.bool b) := by
      intro i hil
      obtain ⟨cs', hcc, ht'⟩ := hi i (by omega)
      rw [hc, Nat.mul_one] at hcc
      obtain ⟨b, rfl⟩ := trod_bool he ht'
      obtain ⟨_, _, hat⟩ := World.cells?_some hcc
      have h0 := hat 0 (by omega)
      have e0 : (a.add i).add 0 = a.add i := by rw [add_of_add, Nat.add_zero]
      rw [e0] at h0
      exact ⟨b, h0⟩
    have hex : ∃ xs : List Bool, xs.length = len ∧ ∀ i, i < len → w.cell? (a.add i) = some (.bool (xs.getD i false)) := by
      have : ∀ k, k ≤ len → ∃ xs : List Bool, xs.length = k ∧ ∀ i, i < k → w.cell? (a.add i) = some (.bool (xs.getD i false)) := by
        intro k
        induction k with
        | zero => exact fun _ => ⟨[], rfl, fun i h => by omega⟩
        | succ k ih =>
          intro hk
          obtain ⟨xs, h1, h2⟩ := ih (by omega)
          obtain ⟨b, h3⟩ := key k (by omega)
          refine ⟨xs ++ [b], by simp [h1], fun i hi => ?_⟩
          rcases Nat.lt_or_ge i k with h5 | h5
          · have e : (xs ++ [b]).getD i false = xs.getD i false := by simp [List.getD, List.getElem?_append_left (show i < xs.length by omega)]
            rw [e]; exact h2 i h5
          · obtain rfl : i = k := by omega
            have e : (xs ++ [b]).getD i false = b := by simp [List.getD, h1]
            rw [e]; exact h3
      exact this len (Nat.le_refl _)
    obtain ⟨xs, h1, h2⟩ := hex
    refine ⟨some a, len, cap, xs, rfl, by omega, ⟨by simp [h1], fun hp => ⟨a, rfl, ?_, ?_⟩⟩⟩
    · have := World.block_lt_of_cell? w _ (h2 0 hp)
      rwa [block_of_add] at this
    · intro j u hu
      simp only [List.getElem?_map, Option.map_eq_some_iff] at hu
      obtain ⟨y, hy, rfl⟩ := hu
      have hj : j < xs.length := (List.getElem?_eq_some_iff.1 hy).1
      have := h2 j (by omega)
      rw [this]
      simp [List.getD, hy]
theorem bools_of_Trod {t e : TypeId} {v : Value} {d : DataW H} {p : List MemPlace} {r : Reach} {b0 : Nat} (ht : P.underlying t = some (.slice e)) (he : P.underlying e = some .bool) (hc : P.cellsOf e = 1) (hv : Value.okWide P w r b0 t v) (h : DataW.Trod enc P w 0 spare held t v d p) :
    ∃ A n c xs, v = .slice A n c ∧ n ≤ maxLen ∧ Bools w w.heap.size A n xs := by
  obtain ⟨a, len, cap, rfl⟩ := okWide_slice ht hv
  obtain ⟨fuel, hf⟩ := h
  obtain ⟨A, n, c, xs, e1, e2, e3⟩ := bools_of_trod ht he hc hf
  have e5 : Value.slice a len cap = .slice A n c := by simpa [Value.cells] using e1
  exact ⟨A, n, c, xs, e5, e2, e3⟩
theorem strs_of_Trod {t e : TypeId} {v : Value} {d : DataW H} {p : List MemPlace} {r : Reach} {b0 : Nat} (ht : P.underlying t = some (.slice e)) (he : P.underlying e = some .string) (hc : P.cellsOf e = 1) (hv : Value.okWide P w r b0 t v) (h : DataW.Trod enc P w 0 spare held t v d p) :
    ∃ A n c ss, v = .slice A n c ∧ n ≤ maxLen ∧ Strs w w.heap.size A n ss ∧ ∀ s ∈ ss, s.size ≤ maxLen := by
  obtain ⟨a, len, cap, rfl⟩ := okWide_slice ht hv
  obtain ⟨fuel, hf⟩ := h
  obtain ⟨A, n, c, ss, e1, e2, e3, e4, e6⟩ := strs_of_trod ht he hc hf
  have e5 : Value.slice a len cap = .slice A n c := by simpa [Value.cells] using e1
  exact ⟨A, n, c, ss, e5, by omega, e4, e6⟩
end
end Go.Proofs.Ythinfliplpjdjaa
