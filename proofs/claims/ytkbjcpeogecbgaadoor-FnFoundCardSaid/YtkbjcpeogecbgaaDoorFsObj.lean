/-
  Objects in memory, as package jsonnet makes them of steps: maps of fields; sizes.
-/
import Derived.Test.YtkbjcpeogecbgaaDoorFsChain
import Derived.Maps.OwnSet
import Derived.Deep.RegionHeld3
namespace Go.Proofs.YtkbjcpeogecbgaaDoor
open Go.RowKit Go.Maps

/-- A map, as the list of what was put into it, the newest first. -/
abbrev AL := List (ByteArray × Int)
def lookL : AL → ByteArray → Option Int
  | [], _ => none
  | (a, h) :: L, s => if a = s then some h else lookL L s
theorem lawK : Keyed Tryd.prog 9 := string_keyed Tryd.underlying9
def keyL (s : ByteArray) : Lit := .string s.data.toList
theorem key_of {s : ByteArray} (h : s.size ≤ maxLen) : keyOf Tryd.prog 9 (.string s) = some (keyL s) := WideMaps.keyOf_string_mk Tryd.underlying9 h
theorem keyL_ne {a b : ByteArray} (h : a ≠ b) : keyL a ≠ keyL b := fun e => by
  unfold keyL at e
  injection e with e
  exact h (WideShapes.bytes_inj e)
/-- How a field reads: as the number of how it is seen. -/
def rdS (v : Value) : Option (DataW Unit × List MemPlace) :=
  match v with
  | .agg cs => match cs.toList with
    | [.nilIface, .int .i64 h] => some (.lit (.int .i64 h), [])
    | _ => none
  | _ => none
theorem rdS_cases {v : Value} {d : DataW Unit} {p : List MemPlace} (h : rdS v = some (d, p)) : ∃ x : Int, v = .agg #[.nilIface, .int .i64 x] ∧ d = .lit (.int .i64 x) := by
  unfold rdS at h
  split at h
  · rename_i cs
    split at h
    · rename_i x hx
      injection h with h
      injection h with h1 _
      refine ⟨x, ?_, h1.symm⟩
      congr 1
      exact Array.ext' hx
    · cases h
  · cases h
theorem zeroS (w : World) : (zeroValue 74).run Tryd.prog w = .ok (.agg #[.nilIface, .int .i64 0]) w := by kernel_rfl
def zS : DataW Unit := .lit (.int .i64 0)
def Holds (D : DataW Unit) (L : AL) : Prop := ∀ s, has D (keyL s) = (lookL L s).isSome ∧ ∀ h, lookL L s = some h → D.atKey (keyL s) zS = .lit (.int .i64 h)
theorem Holds.put {D : DataW Unit} {L : AL} (h : Holds D L) (hD : IsMap D) (s : ByteArray) (x : Int) : Holds (D.put (keyL s) (.lit (.int .i64 x))) ((s, x) :: L) := by
  intro y
  by_cases hy : y = s
  · subst hy
    rw [has_put_same hD (show WideAt.IsKeyLit (keyL y) from trivial), atKey_put_same hD (show WideAt.IsKeyLit (keyL y) from trivial)]
    simp [lookL]
  · rw [has_put_other (keyL_ne hy), atKey_put_other (keyL_ne hy)]
    have : lookL ((s, x) :: L) y = lookL L y := by
      show (if s = y then some x else lookL L y) = _
      rw [if_neg (fun e => hy e.symm)]
    rw [this]
    exact h y
def FMap (w : World) (b n : Nat) (L : AL) : Prop := ∃ D : DataW Unit, w.ownsMap Tryd.prog 9 rdS b n D ∧ Holds D L
theorem FMap.made (w : World) : FMap (w.alloc (.map #[] 0)) w.heap.size 0 [] := ⟨_, World.ownsMap_made w _ _ _, fun _ => ⟨rfl, fun h hh => by simp [lookL] at hh⟩⟩
theorem FMap.below {w w' : World} {b n C : Nat} {L : AL} (h : FMap w b n L) (hb : Below C w w') (hC : b < C) : FMap w' b n L := by
  obtain ⟨D, ⟨es, clock, q1, q2⟩, h2⟩ := h
  exact ⟨D, ⟨es, clock, (hb.block b hC).trans q1, q2⟩, h2⟩

/-- An object: a flat one; a flat one to the right of another; one without a field. -/
inductive OT where
  | simple (L : AL)
  | ext (l : OT) (L : AL)
  | restr (o : OT) (L : AL)
def sizeO : OT → Nat
  | .simple _ => 1
  | .ext l _ => sizeO l + 1
  | .restr o _ => 1 + sizeO o
def SiO (w : World) (B : Nat) (L : AL) (v : Value) : Prop :=
  ∃ g b n, v = .iface 102 (.pointer (some ⟨g, 0, none⟩)) ∧ g < B ∧ b < B ∧ Blk w g 108 #[.map none, .map (some b), .slice none 0 0, .slice none 0 0] ∧ FMap w b n L
/-- How a number reads. -/
def rdI (v : Value) : Option (DataW Unit × List MemPlace) :=
  match v with
  | .int .i64 h => some (.lit (.int .i64 h), [])
  | _ => none
def HMap (w : World) (b n : Nat) (L : AL) : Prop := ∃ D : DataW Unit, w.ownsMap Tryd.prog 9 rdI b n D ∧ Holds D L
def OB (w : World) (B : Nat) : OT → Value → Prop
  | .simple L, v => SiO w B L v
  | .ext l L, v => ∃ g vl vr, v = .iface 99 (.pointer (some ⟨g, 0, none⟩)) ∧ g < B ∧ Blk w g 101 #[vl, vr, .int .i64 ((sizeO l + 1 : Nat) : Int)] ∧ OB w B l vl ∧ SiO w B L vr
  | .restr o L, v => ∃ g b n vo, v = .iface 97 (.pointer (some ⟨g, 0, none⟩)) ∧ g < B ∧ b < B ∧ Blk w g 96 #[vo, .map (some b)] ∧ OB w B o vo ∧ HMap w b n L
theorem HMap.below {w w' : World} {b n C : Nat} {L : AL} (h : HMap w b n L) (hb : Below C w w') (hC : b < C) : HMap w' b n L := by
  obtain ⟨D, ⟨es, clock, q1, q2⟩, h2⟩ := h
  exact ⟨D, ⟨es, clock, (hb.block b hC).trans q1, q2⟩, h2⟩
theorem SiO.below {w w' : World} {B C : Nat} {L : AL} {v : Value} (h : SiO w B L v) (hb : Below C w w') (hC : B ≤ C) : SiO w' B L v := by
  obtain ⟨g, b, n, h1, h2, h3, h4, h5⟩ := h
  exact ⟨g, b, n, h1, h2, h3, h4.below hb (by omega), h5.below hb (by omega)⟩
theorem SiO.more {w : World} {B C : Nat} {L : AL} {v : Value} (h : SiO w B L v) (hC : B ≤ C) : SiO w C L v := by
  obtain ⟨g, b, n, h1, h2, h3, h4, h5⟩ := h
  exact ⟨g, b, n, h1, by omega, by omega, h4, h5⟩
theorem OB.below {w w' : World} {B C : Nat} (hb : Below C w w') (hC : B ≤ C) : ∀ {o : OT} {v : Value}, OB w B o v → OB w' B o v
  | .simple _, _, h => SiO.below h hb hC
  | .ext _ _, _, h => by
    obtain ⟨g, vl, vr, h1, h2, h3, h4, h5⟩ := h
    exact ⟨g, vl, vr, h1, h2, h3.below hb (by omega), OB.below hb hC h4, h5.below hb hC⟩
  | .restr _ _, _, h => by
    obtain ⟨g, b, n, vo, h1, h2, h3, h4, h5, h6⟩ := h
    exact ⟨g, b, n, vo, h1, h2, h3, h4.below hb (by omega), OB.below hb hC h5, h6.below hb (by omega)⟩
theorem OB.more {w : World} {B C : Nat} (hC : B ≤ C) : ∀ {o : OT} {v : Value}, OB w B o v → OB w C o v
  | .simple _, _, h => SiO.more h hC
  | .ext _ _, _, h => by
    obtain ⟨g, vl, vr, h1, h2, h3, h4, h5⟩ := h
    exact ⟨g, vl, vr, h1, by omega, h3, OB.more hC h4, h5.more hC⟩
  | .restr _ _, _, h => by
    obtain ⟨g, b, n, vo, h1, h2, h3, h4, h5, h6⟩ := h
    exact ⟨g, b, n, vo, h1, by omega, by omega, h4, OB.more hC h5, h6⟩
theorem OB.shape {w : World} {B : Nat} : ∀ {o : OT} {v : Value}, OB w B o v → ∃ t g, v = .iface t (.pointer (some ⟨g, 0, none⟩)) ∧ g < B
  | .simple _, _, ⟨g, _, _, h1, h2, _⟩ => ⟨_, g, h1, h2⟩
  | .ext _ _, _, ⟨g, _, _, h1, h2, _⟩ => ⟨_, g, h1, h2⟩
  | .restr _ _, _, ⟨g, _, _, _, h1, h2, _⟩ => ⟨_, g, h1, h2⟩
/-- An object's value. -/
def VO (w : World) (B : Nat) (o : OT) (p : Value) : Prop := ∃ g m vl, p = .pointer (some ⟨g, 0, none⟩) ∧ g < B ∧ Blk w g 68 #[.nilIface, .map (some m), vl] ∧ OB w B o vl
theorem VO.below {w w' : World} {B C : Nat} {o : OT} {p : Value} (h : VO w B o p) (hb : Below C w w') (hC : B ≤ C) : VO w' B o p := by
  obtain ⟨g, m, vl, h1, h2, h3, h4⟩ := h
  exact ⟨g, m, vl, h1, h2, h3.below hb (by omega), h4.below hb hC⟩
theorem VO.more {w : World} {B C : Nat} {o : OT} {p : Value} (h : VO w B o p) (hC : B ≤ C) : VO w C o p := by
  obtain ⟨g, m, vl, h1, h2, h3, h4⟩ := h
  exact ⟨g, m, vl, h1, by omega, h3, h4.more hC⟩

theorem method_simple (a : Addr) (w : World) : (method 351 102 (.pointer (some a)) "given.example/pub-rondel/pub/jsonnet.inheritanceSize").run Tryd.prog w = .ok (75, .pointer (some a)) w := by kernel_rfl
theorem method_ext (a : Addr) (w : World) : (method 351 99 (.pointer (some a)) "given.example/pub-rondel/pub/jsonnet.inheritanceSize").run Tryd.prog w = .ok (74, .pointer (some a)) w := by kernel_rfl
theorem method_restr (a : Addr) (w : World) : (method 351 97 (.pointer (some a)) "given.example/pub-rondel/pub/jsonnet.inheritanceSize").run Tryd.prog w = .ok (73, .pointer (some a)) w := by kernel_rfl
theorem size_simple (p : Value) (w : World) : Calls Tryd.prog 75 #[p] w fun e w' => e = .returned (.int .i64 1) ∧ w = w' := by
  go_enter Tryd.func75, Tryd.ntmps75
  go_wp2
  go_ret
  exact ⟨rfl, rfl⟩
theorem size_ext (g : Nat) (vl vr x : Value) (w : World) (h : Blk w g 101 #[vl, vr, x]) : Calls Tryd.prog 74 #[.pointer (some ⟨g, 0, none⟩)] w fun e w' => e = .returned x ∧ w = w' := by
  have c2 := h.cell 2
  simp only [List.getElem?_toArray, List.getElem?_cons_zero, List.getElem?_cons_succ] at c2
  go_enter Tryd.func74, Tryd.ntmps74
  go_wp2
  go_ret
  exact ⟨rfl, rfl⟩
end Go.Proofs.YtkbjcpeogecbgaaDoor
