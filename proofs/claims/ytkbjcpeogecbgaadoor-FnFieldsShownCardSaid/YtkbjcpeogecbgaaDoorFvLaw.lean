/-
  Names collected from a map in whatever order, and sorted: the same list each time; a part of them, sorted, is the part of the sorted list.
-/
import Derived.Test.YtkbjcpeogecbgaaDoorFvObj
import Derived.Sort.KeysCollected
namespace Go.Proofs.YtkbjcpeogecbgaaDoor
open Go.RowKit Go.Maps

/-- So far these names have been collected: those that count, and are no longer to come. -/
def Coll (V : ByteArray → Option Int) (p : Int → Bool) (left : Lit → Bool) (ss : List (List UInt8)) : Prop :=
  ss.Nodup ∧ ∀ x : List UInt8, x ∈ ss ↔ ∃ c, V ⟨x.toArray⟩ = some c ∧ p c = true ∧ left (.string x) = false
def NamesOf (V : ByteArray → Option Int) (p : Int → Bool) (ss : List (List UInt8)) : Prop :=
  ss.Nodup ∧ ∀ x : List UInt8, x ∈ ss ↔ ∃ c, V ⟨x.toArray⟩ = some c ∧ p c = true
theorem Coll.start {D : DataW Unit} {V : ByteArray → Option Int} (p : Int → Bool) (h : HoldsF D V) : Coll V p (has D) [] := by
  refine ⟨List.nodup_nil, fun x => ⟨fun hx => absurd hx List.not_mem_nil, ?_⟩⟩
  rintro ⟨c, h1, -, h3⟩
  have h4 := (h ⟨x.toArray⟩).1
  rw [h1] at h4
  have h5 : has D (.string x) = true := h4
  rw [h5] at h3
  cases h3
theorem back_list (s : ByteArray) : (⟨s.data.toList.toArray⟩ : ByteArray) = s := by
  cases s
  simp
theorem Coll.step {V : ByteArray → Option Int} {p : Int → Bool} {left : Lit → Bool} {ss : List (List UInt8)} (h : Coll V p left ss) {s : ByteArray} {c : Int} (hl : left (keyL s) = true) (hv : V s = some c) :
    (p c = true → Coll V p (fun z => left z && !z.sameKey (keyL s)) (ss ++ [s.data.toList])) ∧ (p c = false → Coll V p (fun z => left z && !z.sameKey (keyL s)) ss) := by
  have hnew : s.data.toList ∉ ss := fun hx => by
    obtain ⟨c', -, -, h3⟩ := (h.2 _).1 hx
    have h4 : left (.string s.data.toList) = true := hl
    rw [h4] at h3
    cases h3
  have other : ∀ x : List UInt8, x ≠ s.data.toList → (left (.string x) && !(Lit.string x).sameKey (keyL s)) = left (.string x) := fun x hx => by
    have : (Lit.string x).sameKey (keyL s) = false := by
      unfold keyL
      simp [Lit.sameKey, hx]
    rw [this]
    simp
  have same : (left (.string s.data.toList) && !(Lit.string s.data.toList).sameKey (keyL s)) = false := by
    unfold keyL
    simp [Lit.sameKey]
  constructor
  · intro hp
    refine ⟨List.nodup_append.2 ⟨h.1, by simp, fun a ha b hb => by simp at hb; subst hb; exact fun e => hnew (e ▸ ha)⟩, fun x => ?_⟩
    by_cases hx : x = s.data.toList
    · subst hx
      refine ⟨fun _ => ⟨c, by rw [back_list]; exact hv, hp, same⟩, fun _ => by simp⟩
    · rw [List.mem_append, List.mem_singleton, h.2 x]
      constructor
      · rintro (⟨c', h1, h2, h3⟩ | e)
        · exact ⟨c', h1, h2, (other x hx).trans h3⟩
        · exact absurd e hx
      · rintro ⟨c', h1, h2, h3⟩
        exact .inl ⟨c', h1, h2, (other x hx).symm.trans h3⟩
  · intro hp
    refine ⟨h.1, fun x => ?_⟩
    by_cases hx : x = s.data.toList
    · subst hx
      refine ⟨fun e => absurd e hnew, ?_⟩
      rintro ⟨c', h1, h2, -⟩
      rw [back_list, hv] at h1
      injection h1 with h1
      subst h1
      rw [hp] at h2
      cases h2
    · rw [h.2 x]
      constructor
      · rintro ⟨c', h1, h2, h3⟩
        exact ⟨c', h1, h2, (other x hx).trans h3⟩
      · rintro ⟨c', h1, h2, h3⟩
        exact ⟨c', h1, h2, (other x hx).symm.trans h3⟩
theorem Coll.done {V : ByteArray → Option Int} {p : Int → Bool} {left : Lit → Bool} {ss : List (List UInt8)} (h : Coll V p left ss) (hl : ∀ kl, left kl = false) : NamesOf V p ss :=
  ⟨h.1, fun x => by
    rw [h.2 x]
    constructor
    · rintro ⟨c, h1, h2, -⟩
      exact ⟨c, h1, h2⟩
    · rintro ⟨c, h1, h2⟩
      exact ⟨c, h1, h2, hl _⟩⟩
def sortN (ss : List (List UInt8)) : List (List UInt8) := ss.mergeSort fun x y => decide (x ≤ y)
theorem leB_eq : leB = fun x y : List UInt8 => decide (x ≤ y) := rfl
theorem sortN_perm (ss : List (List UInt8)) : (sortN ss).Perm ss := List.mergeSort_perm ss _
theorem sortN_sorted (ss : List (List UInt8)) : (sortN ss).Pairwise (fun a b => a ≤ b) := by
  have tr : ∀ a b c : List UInt8, decide (a ≤ b) = true → decide (b ≤ c) = true → decide (a ≤ c) = true := fun a b c h1 h2 => by simp only [decide_eq_true_eq] at *; exact List.le_trans h1 h2
  have to : ∀ a b : List UInt8, (decide (a ≤ b) || decide (b ≤ a)) = true := fun a b => by simp only [Bool.or_eq_true, decide_eq_true_eq]; exact List.le_total a b
  have := List.pairwise_mergeSort (le := fun x y : List UInt8 => decide (x ≤ y)) tr to ss
  exact this.imp fun h => by simpa using h
theorem sorted_eq {a b : List (List UInt8)} (ha : a.Pairwise (fun x y => x ≤ y)) (hb : b.Pairwise (fun x y => x ≤ y)) (h : a.Perm b) : a = b :=
  List.Perm.eq_of_pairwise (le := fun x y : List UInt8 => x ≤ y) (fun _ _ _ _ h1 h2 => List.le_antisymm h1 h2) ha hb h
theorem names_perm {V : ByteArray → Option Int} {p : Int → Bool} {a b : List (List UInt8)} (ha : NamesOf V p a) (hb : NamesOf V p b) : a.Perm b :=
  (List.perm_ext_iff_of_nodup ha.1 hb.1).2 fun x => by rw [ha.2 x, hb.2 x]
/-- Each time the same names in the same order. -/
theorem names_same {V : ByteArray → Option Int} {p : Int → Bool} {a b : List (List UInt8)} (ha : NamesOf V p a) (hb : NamesOf V p b) : sortN a = sortN b :=
  sorted_eq (sortN_sorted a) (sortN_sorted b) (((sortN_perm a).trans (names_perm ha hb)).trans (sortN_perm b).symm)
/-- Those that count, sorted, are what counts of all, sorted. -/
theorem names_part {V : ByteArray → Option Int} {p : Int → Bool} (q : List UInt8 → Bool) {a b : List (List UInt8)} (ha : NamesOf V p a) (hb : NamesOf V (fun _ => true) b) (hq : ∀ x c, V ⟨x.toArray⟩ = some c → q x = p c) :
    sortN a = (sortN b).filter q := by
  refine sorted_eq (sortN_sorted a) ((sortN_sorted b).filter _) ((sortN_perm a).trans ?_)
  refine (List.perm_ext_iff_of_nodup ha.1 ((((sortN_perm b).nodup_iff).2 hb.1).filter _)).2 fun x => ?_
  rw [ha.2 x, List.mem_filter, (sortN_perm b).mem_iff, hb.2 x]
  constructor
  · rintro ⟨c, h1, h2⟩
    exact ⟨⟨c, h1, rfl⟩, by rw [hq x c h1]; exact h2⟩
  · rintro ⟨⟨c, h1, -⟩, h2⟩
    rw [hq x c h1] at h2
    exact ⟨c, h1, h2⟩
end Go.Proofs.YtkbjcpeogecbgaaDoor
