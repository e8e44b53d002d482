/-
  Calls with names: plain facts. A call goes through just if callOk says so; the order of the names does not matter.
-/
import Derived.Test.YthinfliplpjdjaaWords
namespace Go.Proofs.Ythinfliplpjdjaa

/-- Is the name on the list? -/
def memB (x : ByteArray) (l : List ByteArray) : Bool := l.any fun y => decide (y = x)
theorem memB_iff {x : ByteArray} {l : List ByteArray} : memB x l = true ↔ x ∈ l := by
  unfold memB
  rw [List.any_eq_true]
  constructor
  · rintro ⟨y, h1, h2⟩
    rw [decide_eq_true_eq] at h2
    exact h2 ▸ h1
  · intro h
    exact ⟨x, h, decide_eq_true rfl⟩
theorem memB_true {x : ByteArray} {l : List ByteArray} (h : x ∈ l) : memB x l = true := memB_iff.2 h
theorem memB_false {x : ByteArray} {l : List ByteArray} (h : x ∉ l) : memB x l = false := by
  cases hb : memB x l with
  | false => rfl
  | true => exact absurd (memB_iff.1 hb) h
theorem memB_no {x : ByteArray} {l : List ByteArray} : memB x l = false ↔ x ∉ l := by
  constructor
  · intro h hm
    rw [memB_true hm] at h
    cases h
  · exact memB_false
theorem memB_snoc (x s : ByteArray) (l : List ByteArray) : memB x (l ++ [s]) = (memB x l || decide (s = x)) := by simp [memB]

def namesOk (P : List ByteArray) : List ByteArray → List ByteArray → Bool
  | _, [] => true
  | r, x :: xs => !memB x r && memB x P && namesOk P (r ++ [x]) xs
/-- Params P, which of them have a default, so many arguments without names, names N. -/
def hasAll (P : List ByteArray) (opt : List Bool) (R : List ByteArray) : Bool := (List.range P.length).all fun i => memB (P.getD i ByteArray.empty) R || opt.getD i false
def callOk (P : List ByteArray) (opt : List Bool) (pos : Nat) (N : List ByteArray) : Bool :=
  decide (pos ≤ P.length) && namesOk P (P.take pos) N && hasAll P opt (P.take pos ++ N)

theorem namesOk_iff (P : List ByteArray) : ∀ (N r : List ByteArray), namesOk P r N = true ↔ (∀ x ∈ N, x ∈ P) ∧ N.Nodup ∧ (∀ x ∈ N, x ∉ r)
  | [], r => by simp [namesOk]
  | x :: xs, r => by
    rw [namesOk, Bool.and_eq_true, Bool.and_eq_true, namesOk_iff P xs (r ++ [x]), Bool.not_eq_true', memB_no, memB_iff]
    simp only [List.mem_cons, forall_eq_or_imp, List.nodup_cons, List.mem_append, List.not_mem_nil, or_false, not_or]
    constructor
    · rintro ⟨⟨h1, h2⟩, h3, h4, h5⟩
      exact ⟨⟨h2, h3⟩, ⟨fun h => (h5 x h).2 rfl, h4⟩, h1, fun y hy => (h5 y hy).1⟩
    · rintro ⟨⟨h2, h3⟩, ⟨h6, h4⟩, h1, h7⟩
      exact ⟨⟨h1, h2⟩, h3, h4, fun y hy => ⟨h7 y hy, fun e => h6 (e ▸ hy)⟩⟩
theorem hasAll_iff (P : List ByteArray) (opt : List Bool) (R : List ByteArray) : hasAll P opt R = true ↔ ∀ i, i < P.length → P.getD i ByteArray.empty ∈ R ∨ opt.getD i false = true := by
  unfold hasAll
  rw [List.all_eq_true]
  simp only [List.mem_range, Bool.or_eq_true, memB_iff]

theorem bool_iff {a b : Bool} (h : a = true ↔ b = true) : a = b := by
  cases a <;> cases b <;> simp at h ⊢
theorem nodup_rev {l : List ByteArray} : l.reverse.Nodup ↔ l.Nodup := by
  unfold List.Nodup
  rw [List.pairwise_reverse]
  exact ⟨fun h => h.imp (fun hne e => hne e.symm), fun h => h.imp (fun hne e => hne e.symm)⟩
theorem callOk_turned (P : List ByteArray) (opt : List Bool) (pos : Nat) (N : List ByteArray) : callOk P opt pos N.reverse = callOk P opt pos N := by
  unfold callOk
  have h1 : namesOk P (P.take pos) N.reverse = namesOk P (P.take pos) N := by
    apply bool_iff
    rw [namesOk_iff, namesOk_iff, nodup_rev]
    simp only [List.mem_reverse]
  have h2 : hasAll P opt (P.take pos ++ N.reverse) = hasAll P opt (P.take pos ++ N) := by
    apply bool_iff
    rw [hasAll_iff, hasAll_iff]
    simp only [List.mem_append, List.mem_reverse]
  rw [h1, h2]
theorem callOk_all (P : List ByteArray) (opt : List Bool) (h : P.Nodup) : callOk P opt 0 P = true := by
  unfold callOk
  rw [Bool.and_eq_true, Bool.and_eq_true]
  refine ⟨⟨by simp, ?_⟩, ?_⟩
  · rw [namesOk_iff]
    exact ⟨fun x hx => hx, h, fun x _ => by simp⟩
  · rw [hasAll_iff]
    intro i hi
    left
    rw [List.mem_append]
    right
    rw [List.getD_eq_getElem?_getD, List.getElem?_eq_getElem hi]
    exact List.getElem_mem hi

theorem nodup_snoc {l : List ByteArray} {x : ByteArray} (h : l.Nodup) (hx : x ∉ l) : (l ++ [x]).Nodup := by
  rw [List.nodup_append]
  refine ⟨h, by simp, ?_⟩
  intro a ha b hb e
  rw [List.mem_singleton] at hb
  subst hb; subst e
  exact hx ha
theorem namesOk_seen {P r xs : List ByteArray} {x : ByteArray} (h : memB x r = true) : namesOk P r (x :: xs) = false := by
  rw [namesOk, h]; rfl
theorem namesOk_none {P r xs : List ByteArray} {x : ByteArray} (h : memB x P = false) : namesOk P r (x :: xs) = false := by
  rw [namesOk, h, Bool.and_false, Bool.false_and]
theorem namesOk_next {P r xs : List ByteArray} {x : ByteArray} (h : memB x r = false) (h2 : memB x P = true) : namesOk P r (x :: xs) = namesOk P (r ++ [x]) xs := by
  rw [namesOk, h, h2]; rfl
end Go.Proofs.Ythinfliplpjdjaa
