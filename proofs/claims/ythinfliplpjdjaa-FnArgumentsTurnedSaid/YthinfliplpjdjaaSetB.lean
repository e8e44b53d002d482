/-
  A map of names to truths, as the list of its names.
-/
import Derived.Test.YthinfliplpjdjaaCallLaw
import Derived.Test.YthinfliplpjdjaaProg
import Derived.Maps.OwnSet
namespace Go.Proofs.Ythinfliplpjdjaa
open Go.RowKit Go.Maps

theorem lawK : Keyed Try.prog 161 := string_keyed Try.underlying161
theorem zeroB (w : World) : (zeroValue 4).run Try.prog w = .ok (.bool false) w := by kernel_rfl
def keyL (s : ByteArray) : Lit := .string s.data.toList
theorem key_of {s : ByteArray} (h : s.size ≤ maxLen) : keyOf Try.prog 161 (.string s) = some (keyL s) := WideMaps.keyOf_string_mk Try.underlying161 h
theorem keyL_ne {a b : ByteArray} (h : a ≠ b) : keyL a ≠ keyL b := fun e => by
  unfold keyL at e
  injection e with e
  exact h (WideShapes.bytes_inj e)

def SetB (w : World) (b n : Nat) (S : List ByteArray) : Prop :=
  ∃ D : DataW Unit, w.ownsMap Try.prog 161 (plainElem Try.prog 4) b n D ∧ ∀ x, has D (keyL x) = memB x S
theorem SetB.made (w : World) : SetB (w.alloc (.map #[] 0)) w.heap.size 0 [] :=
  ⟨_, World.ownsMap_made w _ _ _, fun _ => rfl⟩
theorem SetB.kept {w w' : World} {b n : Nat} {S : List ByteArray} {row : Option Nat} (h : SetB w b n S) (hg : w.grownBy w' row) (hne : some b ≠ row) : SetB w' b n S := by
  obtain ⟨D, h1, h2⟩ := h
  exact ⟨D, h1.kept hg hne, h2⟩
theorem SetB.alloc {w : World} {b n : Nat} {S : List ByteArray} (h : SetB w b n S) (o : Obj) : SetB (w.alloc o) b n S := h.kept (World.grownBy_alloc w o none) (by simp)
theorem SetB.lt {w : World} {b n : Nat} {S : List ByteArray} (h : SetB w b n S) : b < w.heap.size := by
  obtain ⟨D, h1, h2⟩ := h
  exact h1.lt

theorem wpList_set_put (w : World) {ops : Array Oper} {rest : List Oper} {o : Oper} {a : Act} {Q : Exit → Act → World → Prop}
    (hg : o.guard = none) (m x v : Operand) (t : TypeId) (hop : o.op = Op.mapUpdate t m x v) (ht : Try.prog.underlying t = some (.map 161 4)) (b n : Nat) (S : List ByteArray)
    (hm : a.eval m = .map (some b)) (hown : SetB w b n S) (hn : n < maxLen) (s : ByteArray) (u : Bool) (hx : a.eval x = .string s) (hv : a.eval v = .bool u) (hs : s.size ≤ maxLen)
    (hK : ∀ w', SetB w' b (n + 1) (S ++ [s]) → w.grownBy w' (some b) → wpList Try.prog ops Q rest (a.put o.dst undef) w') :
    wpList Try.prog ops Q (o :: rest) a w := by
  obtain ⟨D, h1, h2⟩ := hown
  refine wpList_mapUpdate_own w hg m x v t hop _ _ lawK ht (plainElem Try.prog 4) b n D hm h1 hn _ _ (keyL s) hx hv (key_of hs) _ _ (plainElem_bool Try.underlying4 u) ?_
  intro w' h3 h4
  refine hK w' ⟨_, h3, fun y => ?_⟩ h4
  rw [memB_snoc]
  by_cases hy : y = s
  · subst hy
    rw [has_put_same h1.isMap (show WideAt.IsKeyLit (keyL y) from trivial), decide_eq_true rfl, Bool.or_true]
  · rw [has_put_other (keyL_ne hy), h2, decide_eq_false (fun e => hy e.symm), Bool.or_false]

theorem wpList_set_ok (w : World) {ops : Array Oper} {rest : List Oper} {o : Oper} {a : Act} {Q : Exit → Act → World → Prop}
    (hg : o.guard = none) (m x : Operand) (t : TypeId) (hop : o.op = Op.lookup t m x true) (ht : Try.prog.underlying t = some (.map 161 4)) (b n : Nat) (S : List ByteArray)
    (hm : a.eval m = .map (some b)) (hown : SetB w b n S) (s : ByteArray) (hx : a.eval x = .string s) (hs : s.size ≤ maxLen) (r : Bool) (hr : memB s S = r)
    (hK : ∀ v, wpList Try.prog ops Q rest (a.put o.dst (.tuple #[v, .bool r])) w) :
    wpList Try.prog ops Q (o :: rest) a w := by
  obtain ⟨D, h1, h2⟩ := hown
  refine wpList_lookup_own_ok w hg m x t hop _ _ lawK ht (plainElem Try.prog 4) (zeroB w) (.lit (.bool false)) [] (plainElem_bool Try.underlying4 false) b n D hm h1 _ (keyL s) hx (key_of hs) ?_
  intro v ps hv
  rw [h2, hr]
  exact hK v
end Go.Proofs.Ythinfliplpjdjaa
