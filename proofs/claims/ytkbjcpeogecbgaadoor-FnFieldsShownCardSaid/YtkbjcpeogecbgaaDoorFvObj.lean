/-
  Objects in memory, as package jsonnet makes them of steps, with fields taken out: maps of fields; sizes. (After the text FsObj.)
-/
import Derived.Test.YtkbjcpeogecbgaaDoorFsChain
import Derived.Maps.OwnSet
import Derived.Maps.RangeWalk
import Derived.Deep.RegionHeld3
import Derived.IntWalk
namespace Go.Proofs.YtkbjcpeogecbgaaDoor
open Go.RowKit Go.Maps

/-- A map, as the list of what was put into it, the newest first. -/
abbrev AL := List (ByteArray × Int)
def lookL : AL → ByteArray → Option Int
  | [], _ => none
  | (a, h) :: L, s => if a = s then some h else lookL L s
theorem lawK : Keyed Tryd.prog 9 := string_keyed Tryd.underlying9
def keyL (s : ByteArray) : Lit := .string s.data.toList
theorem key_of {s : ByteArray} (h : s.size ≤ maxLen) : keyOf Tryd.prog 9 (.string s) = some (keyL s) := WideMaps.keyOf_string_mk Tryd.underlying9 h
theorem keyL_ne {a b : ByteArray} (h : a ≠ b) : keyL a ≠ keyL b := fun e => by
  unfold keyL at e
  injection e with e
  exact h (WideShapes.bytes_inj e)
/-- How a field reads: as the number of how it is seen. -/
def rdS (v : Value) : Option (DataW Unit × List MemPlace) :=
  match v with
  | .agg cs => match cs.toList with
    | [.nilIface, .int .i64 h] => some (.lit (.int .i64 h), [])
    | _ => none
  | _ => none
theorem rdS_cases {v : Value} {d : DataW Unit} {p : List MemPlace} (h : rdS v = some (d, p)) : ∃ x : Int, v = .agg #[.nilIface, .int .i64 x] ∧ d = .lit (.int .i64 x) := by
  unfold rdS at h
  split at h
  · rename_i cs
    split at h
    · rename_i x hx
      injection h with h
      injection h with h1 _
      refine ⟨x, ?_, h1.symm⟩
      congr 1
      exact Array.ext' hx
    · cases h
  · cases h
theorem zeroS (w : World) : (zeroValue 74).run Tryd.prog w = .ok (.agg #[.nilIface, .int .i64 0]) w := by kernel_rfl
def zS : DataW Unit := .lit (.int .i64 0)
/-- A map holds what a function says. -/
def HoldsF (D : DataW Unit) (V : ByteArray → Option Int) : Prop := ∀ s, has D (keyL s) = (V s).isSome ∧ ∀ h, V s = some h → D.atKey (keyL s) zS = .lit (.int .i64 h)
def putF (V : ByteArray → Option Int) (s : ByteArray) (x : Int) : ByteArray → Option Int := fun y => if y = s then some x else V y
def delF (V : ByteArray → Option Int) (s : ByteArray) : ByteArray → Option Int := fun y => if y = s then none else V y
theorem HoldsF.put {D : DataW Unit} {V : ByteArray → Option Int} (h : HoldsF D V) (hD : IsMap D) (s : ByteArray) (x : Int) : HoldsF (D.put (keyL s) (.lit (.int .i64 x))) (putF V s x) := by
  intro y
  unfold putF
  by_cases hy : y = s
  · subst hy
    rw [has_put_same hD (show WideAt.IsKeyLit (keyL y) from trivial), atKey_put_same hD (show WideAt.IsKeyLit (keyL y) from trivial)]
    simp
  · rw [has_put_other (keyL_ne hy), atKey_put_other (keyL_ne hy), if_neg hy]
    exact h y
theorem HoldsF.del {D : DataW Unit} {V : ByteArray → Option Int} (h : HoldsF D V) (s : ByteArray) : HoldsF (D.del (keyL s)) (delF V s) := by
  intro y
  unfold delF
  by_cases hy : y = s
  · subst hy
    rw [has_del_same, if_pos rfl]
    exact ⟨rfl, fun h hh => by cases hh⟩
  · rw [has_del_other (keyL_ne hy), atKey_del_other (keyL_ne hy), if_neg hy]
    exact h y
theorem HoldsF.same {D : DataW Unit} {V V' : ByteArray → Option Int} (h : HoldsF D V) (e : ∀ s, V s = V' s) : HoldsF D V' := fun s => by rw [← e s]; exact h s
theorem HoldsF.of_at {D : DataW Unit} {V : ByteArray → Option Int} (h : HoldsF D V) {s : ByteArray} {c : Int} (hat : ∀ zd, D.atKey (keyL s) zd = .lit (.int .i64 c)) : V s = some c := by
  have h1 := (h s).1
  rw [has_true_of_atKey hat] at h1
  cases hv : V s with
  | none => rw [hv] at h1; cases h1
  | some x =>
    have h2 := (h s).2 x hv
    rw [hat] at h2
    injection h2 with h2
    injection h2 with _ h2
    rw [h2]
abbrev Holds (D : DataW Unit) (L : AL) : Prop := HoldsF D (lookL L)
theorem HoldsF.cons {D : DataW Unit} {L : AL} {s : ByteArray} {x : Int} (h : HoldsF D (putF (lookL L) s x)) : Holds D ((s, x) :: L) := h.same fun y => by
  show (if y = s then some x else lookL L y) = if s = y then some x else lookL L y
  by_cases hy : y = s
  · rw [if_pos hy, if_pos hy.symm]
  · rw [if_neg hy, if_neg (fun e => hy e.symm)]
def FMap (w : World) (b n : Nat) (L : AL) : Prop := ∃ D : DataW Unit, w.ownsMap Tryd.prog 9 rdS b n D ∧ Holds D L
theorem FMap.made (w : World) : FMap (w.alloc (.map #[] 0)) w.heap.size 0 [] := ⟨_, World.ownsMap_made w _ _ _, fun _ => ⟨rfl, fun h hh => by cases hh⟩⟩
theorem FMap.below {w w' : World} {b n C : Nat} {L : AL} (h : FMap w b n L) (hb : Below C w w') (hC : b < C) : FMap w' b n L := by
  obtain ⟨D, ⟨es, clock, q1, q2⟩, h2⟩ := h
  exact ⟨D, ⟨es, clock, (hb.block b hC).trans q1, q2⟩, h2⟩

/-- An object: a flat one; a flat one to the right of another; one without a field. -/
inductive OT where
  | simple (L : AL)
  | ext (l : OT) (L : AL)
  | restr (o : OT) (V : ByteArray → Option Int)
def sizeO : OT → Nat
  | .simple _ => 1
  | .ext l _ => sizeO l + 1
  | .restr o _ => 1 + sizeO o
def SiO (w : World) (B : Nat) (L : AL) (v : Value) : Prop :=
  ∃ g b n, v = .iface 102 (.pointer (some ⟨g, 0, none⟩)) ∧ g < B ∧ b < B ∧ Blk w g 108 #[.map none, .map (some b), .slice none 0 0, .slice none 0 0] ∧ FMap w b n L ∧ n ≤ 12
/-- How a number reads. -/
def rdI (v : Value) : Option (DataW Unit × List MemPlace) :=
  match v with
  | .int .i64 h => some (.lit (.int .i64 h), [])
  | _ => none
def HMap (w : World) (b n : Nat) (V : ByteArray → Option Int) : Prop := ∃ D : DataW Unit, w.ownsMap Tryd.prog 9 rdI b n D ∧ HoldsF D V
theorem HMap.made (w : World) : HMap (w.alloc (.map #[] 0)) w.heap.size 0 (fun _ => none) := ⟨_, World.ownsMap_made w _ _ _, fun _ => ⟨rfl, fun h hh => by cases hh⟩⟩
theorem HMap.lt {w : World} {b n : Nat} {V : ByteArray → Option Int} (h : HMap w b n V) : b < w.heap.size := by
  obtain ⟨D, hD, -⟩ := h
  exact hD.lt
def OB (w : World) (B : Nat) : OT → Value → Prop
  | .simple L, v => SiO w B L v
  | .ext l L, v => ∃ g vl vr, v = .iface 99 (.pointer (some ⟨g, 0, none⟩)) ∧ g < B ∧ Blk w g 101 #[vl, vr, .int .i64 ((sizeO l + 1 : Nat) : Int)] ∧ OB w B l vl ∧ SiO w B L vr
  | .restr o V, v => ∃ g b n vo, v = .iface 97 (.pointer (some ⟨g, 0, none⟩)) ∧ g < B ∧ b < B ∧ Blk w g 96 #[vo, .map (some b)] ∧ OB w B o vo ∧ HMap w b n V ∧ n ≤ 12 * sizeO o
theorem HMap.below {w w' : World} {b n C : Nat} {V : ByteArray → Option Int} (h : HMap w b n V) (hb : Below C w w') (hC : b < C) : HMap w' b n V := by
  obtain ⟨D, ⟨es, clock, q1, q2⟩, h2⟩ := h
  exact ⟨D, ⟨es, clock, (hb.block b hC).trans q1, q2⟩, h2⟩
theorem SiO.below {w w' : World} {B C : Nat} {L : AL} {v : Value} (h : SiO w B L v) (hb : Below C w w') (hC : B ≤ C) : SiO w' B L v := by
  obtain ⟨g, b, n, h1, h2, h3, h4, h5, h6⟩ := h
  exact ⟨g, b, n, h1, h2, h3, h4.below hb (by omega), h5.below hb (by omega), h6⟩
theorem SiO.more {w : World} {B C : Nat} {L : AL} {v : Value} (h : SiO w B L v) (hC : B ≤ C) : SiO w C L v := by
  obtain ⟨g, b, n, h1, h2, h3, h4, h5⟩ := h
  exact ⟨g, b, n, h1, by omega, by omega, h4, h5⟩
theorem OB.below {w w' : World} {B C : Nat} (hb : Below C w w') (hC : B ≤ C) : ∀ {o : OT} {v : Value}, OB w B o v → OB w' B o v
  | .simple _, _, h => SiO.below h hb hC
  | .ext _ _, _, h => by
    obtain ⟨g, vl, vr, h1, h2, h3, h4, h5⟩ := h
    exact ⟨g, vl, vr, h1, h2, h3.below hb (by omega), OB.below hb hC h4, h5.below hb hC⟩
  | .restr _ _, _, h => by
    obtain ⟨g, b, n, vo, h1, h2, h3, h4, h5, h6, h7⟩ := h
    exact ⟨g, b, n, vo, h1, h2, h3, h4.below hb (by omega), OB.below hb hC h5, h6.below hb (by omega), h7⟩
theorem OB.more {w : World} {B C : Nat} (hC : B ≤ C) : ∀ {o : OT} {v : Value}, OB w B o v → OB w C o v
  | .simple _, _, h => SiO.more h hC
  | .ext _ _, _, h => by
    obtain ⟨g, vl, vr, h1, h2, h3, h4, h5⟩ := h
    exact ⟨g, vl, vr, h1, by omega, h3, OB.more hC h4, h5.more hC⟩
  | .restr _ _, _, h => by
    obtain ⟨g, b, n, vo, h1, h2, h3, h4, h5, h6⟩ := h
    exact ⟨g, b, n, vo, h1, by omega, by omega, h4, OB.more hC h5, h6⟩
theorem OB.shape {w : World} {B : Nat} : ∀ {o : OT} {v : Value}, OB w B o v → ∃ t g, v = .iface t (.pointer (some ⟨g, 0, none⟩)) ∧ g < B
  | .simple _, _, ⟨g, _, _, h1, h2, _⟩ => ⟨_, g, h1, h2⟩
  | .ext _ _, _, ⟨g, _, _, h1, h2, _⟩ => ⟨_, g, h1, h2⟩
  | .restr _ _, _, ⟨g, _, _, _, h1, h2, _⟩ => ⟨_, g, h1, h2⟩
/-- An object's value. -/
def VO (w : World) (B : Nat) (o : OT) (p : Value) : Prop := ∃ g m vl, p = .pointer (some ⟨g, 0, none⟩) ∧ g < B ∧ Blk w g 68 #[.nilIface, .map (some m), vl] ∧ OB w B o vl
theorem VO.below {w w' : World} {B C : Nat} {o : OT} {p : Value} (h : VO w B o p) (hb : Below C w w') (hC : B ≤ C) : VO w' B o p := by
  obtain ⟨g, m, vl, h1, h2, h3, h4⟩ := h
  exact ⟨g, m, vl, h1, h2, h3.below hb (by omega), h4.below hb hC⟩
theorem VO.more {w : World} {B C : Nat} {o : OT} {p : Value} (h : VO w B o p) (hC : B ≤ C) : VO w C o p := by
  obtain ⟨g, m, vl, h1, h2, h3, h4⟩ := h
  exact ⟨g, m, vl, h1, by omega, h3, h4.more hC⟩

theorem method_simple (a : Addr) (w : World) : (method 351 102 (.pointer (some a)) "given.example/pub-rondel/pub/jsonnet.inheritanceSize").run Tryd.prog w = .ok (75, .pointer (some a)) w := by kernel_rfl
theorem method_ext (a : Addr) (w : World) : (method 351 99 (.pointer (some a)) "given.example/pub-rondel/pub/jsonnet.inheritanceSize").run Tryd.prog w = .ok (74, .pointer (some a)) w := by kernel_rfl
theorem method_restr (a : Addr) (w : World) : (method 351 97 (.pointer (some a)) "given.example/pub-rondel/pub/jsonnet.inheritanceSize").run Tryd.prog w = .ok (73, .pointer (some a)) w := by kernel_rfl
theorem size_simple (p : Value) (w : World) : Calls Tryd.prog 75 #[p] w fun e w' => e = .returned (.int .i64 1) ∧ w = w' := by
  go_enter Tryd.func75, Tryd.ntmps75
  go_wp2
  go_ret
  exact ⟨rfl, rfl⟩
theorem size_ext (g : Nat) (vl vr x : Value) (w : World) (h : Blk w g 101 #[vl, vr, x]) : Calls Tryd.prog 74 #[.pointer (some ⟨g, 0, none⟩)] w fun e w' => e = .returned x ∧ w = w' := by
  have c2 := h.cell 2
  simp only [List.getElem?_toArray, List.getElem?_cons_zero, List.getElem?_cons_succ] at c2
  go_enter Tryd.func74, Tryd.ntmps74
  go_wp2
  go_ret
  exact ⟨rfl, rfl⟩
/-- The function that an object's size is asked of. -/
def sizeFn : OT → Nat
  | .simple _ => 75
  | .ext _ _ => 74
  | .restr _ _ => 73
/-- What an object's value points to. -/
def addrOf : Value → Value
  | .iface _ p => p
  | v => v
set_option maxRecDepth 100000 in
theorem size_all : ∀ (o : OT) (v : Value) (B : Nat) (w : World), OB w B o v → sizeO o ≤ 1000 → Calls Tryd.prog (sizeFn o) #[addrOf v] w fun e w' => e = .returned (.int .i64 (sizeO o : Nat)) ∧ w = w'
  | .simple L, v, B, w, h, _ => by
    obtain ⟨g, b, n, rfl, -⟩ := h
    exact size_simple _ w
  | .ext l L, v, B, w, h, _ => by
    obtain ⟨g, vl, vr, rfl, h2, h3, -⟩ := h
    exact size_ext g vl vr _ w h3
  | .restr o V, v, B, w, h, hs => by
    obtain ⟨g, b, n, vo, rfl, h2, h3, h4, h5, -⟩ := h
    have c0 := h4.cell 0
    simp only [List.getElem?_toArray, List.getElem?_cons_zero] at c0
    have hso : sizeO o ≤ 1000 := by simp only [sizeO] at hs; omega
    have hs1 : 1 + sizeO o ≤ 1000 := by simpa only [sizeO] using hs
    have IH := Lib.hid (size_all o vo B w h5 hso)
    have m1 := method_simple
    have m2 := method_ext
    have m3 := method_restr
    have e1 : IntKind.i64.wrap (1 + (sizeO o : Int)) = ((sizeO (.restr o V) : Nat) : Int) := by
      rw [IntWalk.i64_in _ (by omega)]
      simp only [sizeO]
      omega
    have E1 := Lib.hid e1
    show Calls Tryd.prog 73 #[.pointer (some ⟨g, 0, none⟩)] w _
    cases o with
    | simple K =>
      obtain ⟨g3, b3, n3, rfl, -⟩ := h5
      have hz : (1 : Int) + ((sizeO (.simple K) : Nat) : Int) ≤ 1000 := by omega
      clear e1 hso hs hs1 h4
      go_enter Tryd.func73, Tryd.ntmps73
      go_wp2_with fail
      refine (IH.out).mono ?_
      rintro e2 w2 ⟨rfl, rfl⟩
      go_wp2_with fail
      go_ret
      exact ⟨by show Ending.returned (.int .i64 _) = _; rw [← E1.out, IntWalk.i64_in _ (by omega)], rfl⟩
    | ext l K =>
      obtain ⟨g3, vl3, vr3, rfl, -⟩ := h5
      have hz : (1 : Int) + ((sizeO (.ext l K) : Nat) : Int) ≤ 1000 := by omega
      clear e1 hso hs hs1 h4
      go_enter Tryd.func73, Tryd.ntmps73
      go_wp2_with fail
      refine (IH.out).mono ?_
      rintro e2 w2 ⟨rfl, rfl⟩
      go_wp2_with fail
      go_ret
      exact ⟨by show Ending.returned (.int .i64 _) = _; rw [← E1.out, IntWalk.i64_in _ (by omega)], rfl⟩
    | restr o2 V2 =>
      obtain ⟨g3, b3, n3, vo3, rfl, -⟩ := h5
      have hz : (1 : Int) + ((sizeO (.restr o2 V2) : Nat) : Int) ≤ 1000 := by omega
      clear e1 hso hs hs1 h4
      go_enter Tryd.func73, Tryd.ntmps73
      go_wp2_with fail
      refine (IH.out).mono ?_
      rintro e2 w2 ⟨rfl, rfl⟩
      go_wp2_with fail
      go_ret
      exact ⟨by show Ending.returned (.int .i64 _) = _; rw [← E1.out, IntWalk.i64_in _ (by omega)], rfl⟩
end Go.Proofs.YtkbjcpeogecbgaaDoor
