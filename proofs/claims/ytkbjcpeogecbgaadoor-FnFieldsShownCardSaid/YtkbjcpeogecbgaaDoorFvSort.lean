/-
  sort.Strings at a slice of names of the call's own.
-/
import Derived.Test.YtkbjcpeogecbgaaDoorLaysS
import Derived.Test.YtkbjcpeogecbgaaDoorFvLaw
import Derived.Shelf.Sort.Plain
import Derived.Shelf.Slices.In.SortNone2
import Derived.Sort.OwnSorted
namespace Go.Proofs.YtkbjcpeogecbgaaDoor
open Go.RowKit Go.Maps Go.Shelf Go.Sort

def SoPost (base : Nat) (v : Value) (ss : List (List UInt8)) (w : World) (e : Ending) (w' : World) : Prop :=
  e = .returned (.tuple #[]) ∧ w'.ownsRow base 9 1 v ss.length ((sortN ss).map encStr) ∧ w.grownBy w' v.ownBlock
theorem sortS_any (v : Value) (ss : List (List UInt8)) (base : Nat) (w : World) (h : w.ownsRow base 9 1 v ss.length (ss.map encStr)) (hs : ss.length ≤ 1000000) :
    Calls Tryd.prog 19 #[v] w (SoPost base v ss w) := by
  have h' := h
  rcases h.2 with ⟨rfl, h0⟩ | ⟨g, cap, cur, rfl, hbase, hb, h1, h2, h3, h4⟩
  · obtain rfl : ss = [] := by
      cases ss with
      | nil => rfl
      | cons a l => simp at h0
    refine (Any.sort_Strings_none laysLaysn192 none 0 w).mono ?_
    rintro e w' ⟨rfl, rfl⟩
    refine ⟨rfl, ?_, World.grownBy.refl _ _⟩
    have : sortN [] = [] := by simp [sortN]
    rw [this]
    exact h'
  · have hH := holds_of_block hb (by simpa using h4)
    refine (Any.sort_Strings laysLaysn192 g 0 cap ss w hH (Array.getElem?_eq_some_iff.1 hb).1 (by omega)).mono ?_
    rintro e w' ⟨rfl, n, os, rfl⟩
    exact ⟨rfl, ownsRow_sorted (by simp) hbase hb h1 h2 h3, grownBy_sorted _⟩
end Go.Proofs.YtkbjcpeogecbgaaDoor
