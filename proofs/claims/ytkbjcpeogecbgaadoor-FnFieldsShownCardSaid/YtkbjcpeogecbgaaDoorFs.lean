/-
  Steps that make an object, as they lie in memory.
-/
import Derived.Test.YtkbjcpeogecbgaaDoorFits
namespace Go.Proofs.YtkbjcpeogecbgaaDoor
open Go.RowKit

/-- A slice of whole numbers that is read. -/
def Ints (w : World) (B : Nat) (A : Option Addr) (n : Nat) (xs : List Int) : Prop := Reads w B 1 A n (xs.map (Value.int .i64))
theorem Ints.at_ {w : World} {B : Nat} {A : Option Addr} {n : Nat} {xs : List Int} (h : Ints w B A n xs) {k : Nat} (hk : k < n) :
    ∃ ad, A = some ad ∧ ad.block < B ∧ w.cell? (ad.add k) = some (.int .i64 (xs.getD k 0)) := by
  obtain ⟨ad, u, hA, hb, hx, hc⟩ := Reads.at_ h hk
  refine ⟨ad, hA, hb, ?_⟩
  rw [hc]
  simp only [List.getElem?_map, Option.map_eq_some_iff] at hx
  obtain ⟨s, hs, rfl⟩ := hx
  simp [hs]
theorem Ints.len {w : World} {B : Nat} {A : Option Addr} {n : Nat} {xs : List Int} (h : Ints w B A n xs) : xs.length = n := by
  simpa using h.1

/-- A step: is a field taken out, which one, the names of fields, and how they are seen. -/
structure FE where
  is : Bool
  rm : ByteArray
  A : Option Addr
  n : Nat
  c : Nat
  ns : List ByteArray
  A2 : Option Addr
  n2 : Nat
  c2 : Nat
  hs : List Int
def cellsF (e : FE) : List Value := [.bool e.is, .string e.rm, .slice e.A e.n e.c, .slice e.A2 e.n2 e.c2]
/-- Steps that are read. -/
def FSteps (w : World) (B : Nat) (A : Option Addr) (n : Nat) (es : List FE) : Prop :=
  es.length = n ∧ Reads w B 4 A n (es.flatMap cellsF) ∧ ∀ e ∈ es, Strs w B e.A e.n e.ns ∧ Ints w B e.A2 e.n2 e.hs
def SoundF (es : List FE) : Prop := ∀ e ∈ es, e.n ≤ maxLen ∧ e.n2 ≤ maxLen ∧ e.rm.size ≤ maxLen ∧ ∀ s ∈ e.ns, s.size ≤ maxLen
theorem flatF_get : ∀ (es : List FE) (k j : Nat) (e : FE), es[k]? = some e → j < 4 → (es.flatMap cellsF)[k * 4 + j]? = (cellsF e)[j]?
  | [], k, j, e, h, _ => by simp at h
  | x :: es, 0, j, e, h, hj => by
    simp at h
    subst h
    rw [List.flatMap_cons, List.getElem?_append_left (by simp [cellsF]; omega)]
    simp
  | x :: es, k + 1, j, e, h, hj => by
    have hl : (cellsF x).length = 4 := rfl
    rw [List.flatMap_cons, List.getElem?_append_right (by rw [hl]; omega), hl]
    have e1 : (k + 1) * 4 + j - 4 = k * 4 + j := by omega
    rw [e1]
    exact flatF_get es k j e (by simpa using h) hj
theorem flatF_len : ∀ es : List FE, (es.flatMap cellsF).length = es.length * 4
  | [] => rfl
  | e :: r => by
    rw [List.flatMap_cons, List.length_append, flatF_len r, List.length_cons]
    show 4 + _ = _
    omega
theorem FSteps.at_ {w : World} {B : Nat} {A : Option Addr} {n : Nat} {es : List FE} (h : FSteps w B A n es) {k : Nat} (hk : k < n) :
    ∃ b o e, A = some ⟨b, o, none⟩ ∧ b < B ∧ es[k]? = some e ∧ Strs w B e.A e.n e.ns ∧ Ints w B e.A2 e.n2 e.hs ∧ w.cell? ⟨b, o + k * 4, none⟩ = some (.bool e.is) ∧ w.cell? ⟨b, o + k * 4 + 1, none⟩ = some (.string e.rm) ∧
      w.cell? ⟨b, o + k * 4 + 2, none⟩ = some (.slice e.A e.n e.c) ∧ w.cell? ⟨b, o + k * 4 + 3, none⟩ = some (.slice e.A2 e.n2 e.c2) := by
  obtain ⟨hl, hr, hs⟩ := h
  obtain ⟨ad, hA, hb, hc⟩ := hr.2 (by omega)
  have hkl : k < es.length := by omega
  have hke := List.getElem?_eq_getElem hkl
  have g := fun j (hj : j < 4) => flatF_get es k j _ hke hj
  obtain ⟨b, o, spot⟩ := ad
  have c0 := hc (0 * 4 + 0) _ (flatF_get es 0 0 _ (List.getElem?_eq_getElem (show 0 < es.length by omega)) (by omega))
  obtain rfl : spot = none := by simpa [Addr.add] using World.cell?_spot c0
  have e0 := hc (k * 4 + 0) _ (g 0 (by omega))
  have e1 := hc (k * 4 + 1) _ (g 1 (by omega))
  have e2 := hc (k * 4 + 2) _ (g 2 (by omega))
  have e3 := hc (k * 4 + 3) _ (g 3 (by omega))
  simp only [Addr.add_lit, ← Nat.add_assoc, Nat.add_zero] at e0 e1 e2 e3
  have hm := hs _ (List.getElem_mem hkl)
  exact ⟨b, o, es[k], hA, hb, hke, hm.1, hm.2, e0, e1, e2, e3⟩
theorem FSteps.below {w w' : World} {B C : Nat} {A : Option Addr} {n : Nat} {es : List FE} (h : FSteps w B A n es) (hb : Below C w w') (hC : B ≤ C) : FSteps w' B A n es :=
  ⟨h.1, h.2.1.below (hb.mono hC), fun e he => ⟨Reads.below (h.2.2 e he).1 (hb.mono hC), Reads.below (h.2.2 e he).2 (hb.mono hC)⟩⟩
theorem FSteps.more {w : World} {B B' : Nat} {A : Option Addr} {n : Nat} {es : List FE} (h : FSteps w B A n es) (hb : B ≤ B') : FSteps w B' A n es :=
  ⟨h.1, h.2.1.more hb, fun e he => ⟨Reads.more (h.2.2 e he).1 hb, Reads.more (h.2.2 e he).2 hb⟩⟩

/-- What the guards tell of a step: each name with its way of being seen. -/
def OkF (e : FE) : Prop := e.n = e.n2 ∧ e.n ≤ 12 ∧ (∀ h ∈ e.hs, h = 0 ∨ h = 1 ∨ h = 2) ∧ (e.is = true → e.n = 0)
end Go.Proofs.YtkbjcpeogecbgaaDoor
