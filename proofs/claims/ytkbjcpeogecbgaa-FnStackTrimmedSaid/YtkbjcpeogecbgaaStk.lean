/-
  Steps with a stack, as they lie in memory; the size guards zzFits13, zzFits14; StackRight.
-/
import Derived.Test.YtkbjcpeogecbgaaFits
import Derived.Test.YtkbjcpeogecbgaaStkLaw
namespace Go.Proofs.Ytkbjcpeogecbgaa
open Go.RowKit

/-- A step: its kind, its names (where they lie, how many, the names), its name, its number, whether it can be trimmed. -/
structure SE where
  k : Int
  A : Option Addr
  n : Nat
  c : Nat
  ns : List ByteArray
  nm : ByteArray
  num : Int
  tr : Bool
def cells5 (e : SE) : List Value := [.int .i64 e.k, .slice e.A e.n e.c, .string e.nm, .int .i64 e.num, .bool e.tr]
/-- Steps that are read. -/
def Steps (w : World) (B : Nat) (A : Option Addr) (n : Nat) (es : List SE) : Prop :=
  es.length = n ∧ Reads w B 5 A n (es.flatMap cells5) ∧ ∀ e ∈ es, Strs w B e.A e.n e.ns
def SoundS (es : List SE) : Prop := ∀ e ∈ es, e.n ≤ maxLen ∧ e.nm.size ≤ maxLen ∧ ∀ s ∈ e.ns, s.size ≤ maxLen
theorem flat5_get : ∀ (es : List SE) (k j : Nat) (e : SE), es[k]? = some e → j < 5 → (es.flatMap cells5)[k * 5 + j]? = (cells5 e)[j]?
  | [], k, j, e, h, _ => by simp at h
  | x :: es, 0, j, e, h, hj => by
    simp at h
    subst h
    rw [List.flatMap_cons, List.getElem?_append_left (by simp [cells5]; omega)]
    simp
  | x :: es, k + 1, j, e, h, hj => by
    have hl : (cells5 x).length = 5 := rfl
    rw [List.flatMap_cons, List.getElem?_append_right (by rw [hl]; omega), hl]
    have e1 : (k + 1) * 5 + j - 5 = k * 5 + j := by omega
    rw [e1]
    exact flat5_get es k j e (by simpa using h) hj
theorem flat5_len : ∀ es : List SE, (es.flatMap cells5).length = es.length * 5
  | [] => rfl
  | e :: r => by
    rw [List.flatMap_cons, List.length_append, flat5_len r, List.length_cons]
    show 5 + _ = _
    omega
theorem Steps.at_ {w : World} {B : Nat} {A : Option Addr} {n : Nat} {es : List SE} (h : Steps w B A n es) {k : Nat} (hk : k < n) :
    ∃ b o e, A = some ⟨b, o, none⟩ ∧ b < B ∧ es[k]? = some e ∧ Strs w B e.A e.n e.ns ∧ w.cell? ⟨b, o + k * 5, none⟩ = some (.int .i64 e.k) ∧ w.cell? ⟨b, o + k * 5 + 1, none⟩ = some (.slice e.A e.n e.c) ∧
      w.cell? ⟨b, o + k * 5 + 2, none⟩ = some (.string e.nm) ∧ w.cell? ⟨b, o + k * 5 + 3, none⟩ = some (.int .i64 e.num) ∧ w.cell? ⟨b, o + k * 5 + 4, none⟩ = some (.bool e.tr) := by
  obtain ⟨hl, hr, hs⟩ := h
  obtain ⟨ad, hA, hb, hc⟩ := hr.2 (by omega)
  have hkl : k < es.length := by omega
  have hke := List.getElem?_eq_getElem hkl
  have g := fun j (hj : j < 5) => flat5_get es k j _ hke hj
  obtain ⟨b, o, spot⟩ := ad
  have c0 := hc (0 * 5 + 0) _ (flat5_get es 0 0 _ (List.getElem?_eq_getElem (show 0 < es.length by omega)) (by omega))
  obtain rfl : spot = none := by simpa [Addr.add] using World.cell?_spot c0
  have e0 := hc (k * 5 + 0) _ (g 0 (by omega))
  have e1 := hc (k * 5 + 1) _ (g 1 (by omega))
  have e2 := hc (k * 5 + 2) _ (g 2 (by omega))
  have e3 := hc (k * 5 + 3) _ (g 3 (by omega))
  have e4 := hc (k * 5 + 4) _ (g 4 (by omega))
  simp only [Addr.add_lit, ← Nat.add_assoc, Nat.add_zero] at e0 e1 e2 e3 e4
  exact ⟨b, o, es[k], hA, hb, hke, hs _ (List.getElem_mem _), e0, e1, e2, e3, e4⟩
theorem Steps.below {w w' : World} {B C : Nat} {A : Option Addr} {n : Nat} {es : List SE} (h : Steps w B A n es) (hb : Below C w w') (hC : B ≤ C) : Steps w' B A n es :=
  ⟨h.1, h.2.1.below (hb.mono hC), fun e he => Reads.below (h.2.2 e he) (hb.mono hC)⟩
theorem Steps.more {w : World} {B B' : Nat} {A : Option Addr} {n : Nat} {es : List SE} (h : Steps w B A n es) (hb : B ≤ B') : Steps w B' A n es :=
  ⟨h.1, h.2.1.more hb, fun e he => Reads.more (h.2.2 e he) hb⟩

def SomeB (w : World) (e : Ending) (w' : World) : Prop := (∃ b, e = .returned (.bool b)) ∧ w = w'
def SomeBN (w : World) (e : Ending) (w' : World) : Prop := (∃ b, e = .returned (.bool b)) ∧ Below w.heap.size w w'
end Go.Proofs.Ytkbjcpeogecbgaa
