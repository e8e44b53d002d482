/-
  A stack of frames, plainly: which are calls, which of these can be trimmed; what each step makes of it.
-/
import Derived.Test.YtkbjcpeogecbgaaWords
namespace Go.Proofs.Ytkbjcpeogecbgaa

/-- A step: its kind, its number, whether it can be trimmed. -/
abbrev SS := Int × Int × Bool
/-- Frames (a call? can it be trimmed?), and the count of calls. -/
abbrev St := List (Bool × Bool) × Int

def trimFrom (F : List (Bool × Bool)) (c : Int) : Nat → St
  | 0 => (F, c)
  | q + 1 => if (F.getD q (false, false)).1 = true then (if (F.getD q (false, false)).2 = true then (F.take q, c - 1) else (F, c)) else trimFrom F c q
def popS (F : List (Bool × Bool)) (c : Int) : St := (F.take (F.length - 1), if (F.getD (F.length - 1) (false, false)).1 = true then c - 1 else c)
def stepS (s : St) (x : SS) : St :=
  if x.1 = 1 then (s.1 ++ [(true, x.2.2)], s.2 + 1)
  else if x.1 = 2 then (s.1 ++ [(false, false)], s.2)
  else if x.1 = 3 then (if (s.1.length : Int) = x.2.1 then popS s.1 s.2 else s)
  else if x.1 = 4 then trimFrom s.1 s.2 s.1.length
  else s
def runS (l : List SS) : St := l.foldl stepS ([], 0)
theorem runS_snoc (l : List SS) (x : SS) : runS (l ++ [x]) = stepS (runS l) x := by simp [runS]
theorem runS_append (l m : List SS) : runS (l ++ m) = m.foldl stepS (runS l) := by simp [runS]

theorem locals_run : ∀ (m : List SS) (F : List (Bool × Bool)) (c : Int), (∀ x ∈ m, x.1 = 2) → m.foldl stepS (F, c) = (F ++ List.replicate m.length (false, false), c)
  | [], F, c, _ => by simp
  | x :: m, F, c, h => by
    have hx := h x List.mem_cons_self
    have hs : stepS (F, c) x = (F ++ [(false, false)], c) := by simp [stepS, hx]
    rw [List.foldl_cons, hs, locals_run m _ c (fun y hy => h y (List.mem_cons_of_mem _ hy)), List.length_cons, List.replicate_succ, List.append_assoc]
    rfl
theorem trim_locals (F : List (Bool × Bool)) (c : Int) (can : Bool) (k : Nat) : ∀ j, j ≤ k → trimFrom (F ++ [(true, can)] ++ List.replicate k (false, false)) c (F.length + 1 + j) = trimFrom (F ++ [(true, can)] ++ List.replicate k (false, false)) c (F.length + 1)
  | 0, _ => rfl
  | j + 1, h => by
    have e : (F ++ [(true, can)] ++ List.replicate k (false, false)).getD (F.length + 1 + j) (false, false) = (false, false) := by
      rw [List.getD_eq_getElem?_getD, List.getElem?_append_right (by simp), List.getElem?_replicate]
      split <;> rfl
    show trimFrom _ c (F.length + 1 + j + 1) = _
    rw [trimFrom, e]
    exact trim_locals F c can k j (by omega)
/-- A call, locals, a trim: what was there, or all of it. -/
theorem trim_call (l : List SS) (x : SS) (m : List SS) (y : SS) (hx : x.1 = 1) (hm : ∀ z ∈ m, z.1 = 2) (hy : y.1 = 4) :
    ((runS (l ++ x :: (m ++ [y]))).1.length : Int) = (if x.2.2 = true then ((runS l).1.length : Int) else ((runS l).1.length : Int) + 1 + m.length) ∧ (runS (l ++ x :: (m ++ [y]))).2 = (if x.2.2 = true then (runS l).2 else (runS l).2 + 1) := by
  rw [runS_append, List.foldl_cons, List.foldl_append, List.foldl_cons, List.foldl_nil]
  obtain ⟨F, c⟩ := runS l
  have h1 : stepS (F, c) x = (F ++ [(true, x.2.2)], c + 1) := by simp [stepS, hx]
  rw [h1, locals_run m _ _ hm]
  have h2 : stepS (F ++ [(true, x.2.2)] ++ List.replicate m.length (false, false), c + 1) y = trimFrom (F ++ [(true, x.2.2)] ++ List.replicate m.length (false, false)) (c + 1) (F.length + 1 + m.length) := by
    simp [stepS, hy]
    congr 1
    omega
  rw [h2, trim_locals F (c + 1) x.2.2 m.length m.length (Nat.le_refl _)]
  have e : (F ++ [(true, x.2.2)] ++ List.replicate m.length (false, false)).getD F.length (false, false) = (true, x.2.2) := by
    rw [List.getD_eq_getElem?_getD, List.append_assoc, List.getElem?_append_right (Nat.le_refl _)]
    simp
  rw [trimFrom, e]
  cases x.2.2
  · simp
    omega
  · simp
end Go.Proofs.Ytkbjcpeogecbgaa
