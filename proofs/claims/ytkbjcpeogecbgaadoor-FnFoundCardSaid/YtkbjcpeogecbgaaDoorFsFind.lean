/-
  findField: a field is found in an object just if it has it; at a depth within the object.
-/
import Derived.Test.YtkbjcpeogecbgaaDoorFsObj
import Derived.Deep.RegionLaw
import Derived.Deep.RegionHeld3
import Derived.IntWalk
import Derived.Deep.DeepCutAuto
namespace Go.Proofs.YtkbjcpeogecbgaaDoor
open Go.RowKit Go.Maps

def hasO : OT → ByteArray → Bool
  | .simple L, s => (lookL L s).isSome
  | .ext l L, s => (lookL L s).isSome || hasO l s
  | .restr o _, s => hasO o s
def FfPost (f : Bool) (k : Nat) (w : World) (e : Ending) (w' : World) : Prop :=
  (∃ h ct : Int, e = .returned (.tuple #[.bool f, .agg #[.nilIface, .int .i64 h], .map none, .slice none 0 0, .int .i64 ct]) ∧ 0 ≤ ct ∧ ct < k) ∧ Below w.heap.size w w'
theorem cs2 {W : World} {k q o : Nat} (h : q ≠ k) (u v : Value) : ((W.setCell ⟨k, 0, none⟩ u).setCell ⟨k, 1, none⟩ v).cell? ⟨q, o, none⟩ = W.cell? ⟨q, o, none⟩ := by
  rw [World.cell?_setCell_other _ _ _ _ (fun e => h (by injection e with e1; exact e1.symm)), World.cell?_setCell_other _ _ _ _ (fun e => h (by injection e with e1; exact e1.symm))]
theorem asExt_simple (a : Option Addr) (x : TypeId) (w : World) : (Instr.typeAssert (.iface 102 (.pointer a)) x 99 true).run Tryd.prog w = .ok (.tuple #[.pointer none, .bool false]) w := by kernel_rfl
theorem asRestr_simple (a : Option Addr) (x : TypeId) (w : World) : (Instr.typeAssert (.iface 102 (.pointer a)) x 97 true).run Tryd.prog w = .ok (.tuple #[.pointer none, .bool false]) w := by kernel_rfl
theorem asSimple_simple (a : Option Addr) (x : TypeId) (w : World) : (Instr.typeAssert (.iface 102 (.pointer a)) x 102 true).run Tryd.prog w = .ok (.tuple #[.pointer a, .bool true]) w := by kernel_rfl
theorem asExt_ext (a : Option Addr) (x : TypeId) (w : World) : (Instr.typeAssert (.iface 99 (.pointer a)) x 99 true).run Tryd.prog w = .ok (.tuple #[.pointer a, .bool true]) w := by kernel_rfl

set_option maxRecDepth 100000 in
set_option maxHeartbeats 3200000 in
theorem ff_simple (L : AL) (v : Value) (m : Int) (hm : m ≤ 0) (s : ByteArray) (hs : s.size ≤ maxLen) (B : Nat) (w : World) (h : SiO w B L v) (hB : B ≤ w.heap.size) (f : Bool) (hf : (lookL L s).isSome = f) :
    Calls Tryd.prog 26 #[v, .int .i64 m, .string s] w (FfPost f 1 w) := by
  obtain ⟨g, b, n, rfl, hg, hb, hBk, D, hD, hH⟩ := h
  have a1 := asExt_simple
  have a2 := asRestr_simple
  have a3 := asSimple_simple
  have HBK := Lib.hid hBk
  have HD := Lib.hid hD
  have HF : Hid (has D (keyL s) = f) := Lib.hid ((hH s).1.trans hf)
  have c1 := hBk.cell 1
  simp only [List.getElem?_toArray, List.getElem?_cons_zero, List.getElem?_cons_succ] at c1
  have h2 : ∀ O, (w.alloc O).cell? ⟨g, 1, none⟩ = some (.map (some b)) := fun O => (World.cell?_alloc_lt w O _ (by show g < _; omega)).trans c1
  have c0 := hBk.cell 0
  have c3 := hBk.cell 3
  simp only [List.getElem?_toArray, List.getElem?_cons_zero, List.getElem?_cons_succ] at c0 c3
  have h0 : ∀ O1 O2, ((w.alloc O1).alloc O2).cell? ⟨g, 0, none⟩ = some (.map none) := fun O1 O2 => (World.cell?_alloc_lt _ O2 _ (by show g < _; simp; omega)).trans ((World.cell?_alloc_lt w O1 _ (by show g < _; omega)).trans c0)
  have h3 : ∀ O1 O2, ((w.alloc O1).alloc O2).cell? ⟨g, 3, none⟩ = some (.slice none 0 0) := fun O1 O2 => (World.cell?_alloc_lt _ O2 _ (by show g < _; simp; omega)).trans ((World.cell?_alloc_lt w O1 _ (by show g < _; omega)).trans c3)
  clear hBk hD hH hf
  cases f
  · go_enter Tryd.func26, Tryd.ntmps26
    go_wp2_with (at_lookup; refine wpList_lookup_own_ok _ rfl _ _ 105 rfl _ _ lawK Tryd.underlying105 rdS (zeroS _) zS [] rfl b n D rfl (HD.out.alloc _) _ (keyL s) rfl (key_of hs) ?_; intro v1 ps1 hv1; rw [HF.out]; obtain ⟨x1, rfl, -⟩ := rdS_cases hv1; clear hv1)
    refine bodyPost_ret (v := .tuple #[.bool false, .agg #[.nilIface, .int .i64 0], .map none, .slice none 0 0, .int .i64 0]) ?_ rfl ⟨⟨0, 0, rfl, by omega, by omega⟩, ((Below.refl _ _).alloc (Nat.le_refl _) _).alloc (by simp) _⟩
    simp [results, Tryd.results26, go_sem]
  · go_enter Tryd.func26, Tryd.ntmps26
    go_wp2_with (at_lookup; refine wpList_lookup_own_ok _ rfl _ _ 105 rfl _ _ lawK Tryd.underlying105 rdS (zeroS _) zS [] rfl b n D rfl (HD.out.alloc _) _ (keyL s) rfl (key_of hs) ?_; intro v1 ps1 hv1; rw [HF.out]; obtain ⟨x1, rfl, -⟩ := rdS_cases hv1; clear hv1)
    have hN : ∀ A, Blk ((w.alloc A).alloc (.cells #[.nilIface, .int .i64 x1] 74)) (w.heap.size + 1) 74 #[.nilIface, .int .i64 x1] := fun A => by
      have := Blk.new (w.alloc A) 74 #[.nilIface, .int .i64 x1]
      simpa using this
    have k0 := fun A => (hN A).cell 0
    have k1 := fun A => (hN A).cell 1
    simp only [List.getElem?_toArray, List.getElem?_cons_zero, List.getElem?_cons_succ] at k0 k1
    clear hN
    go_region_held3 (fun w' => w'.cell? ⟨g, 0, none⟩ = some (.map none) ∧ w'.cell? ⟨g, 3, none⟩ = some (.slice none 0 0) ∧ w'.cell? ⟨w.heap.size + 1, 0, none⟩ = some .nilIface ∧ w'.cell? ⟨w.heap.size + 1, 1, none⟩ = some (.int .i64 x1))
      (exact ⟨h0 _ _, h3 _ _, k0 _, k1 _⟩)
      (fail)
    all_goals
      go_wp2_with fail
      refine bodyPost_ret (v := .tuple #[.bool true, .agg #[.nilIface, .int .i64 x1], .map none, .slice none 0 0, .int .i64 0]) ?_ rfl ⟨⟨x1, 0, rfl, by omega, by omega⟩, ?_⟩
      · simp [results, Tryd.results26, go_sem]
      · exact (((Below.refl _ _).alloc (Nat.le_refl _) _).alloc (by simp) _).drew

end Go.Proofs.YtkbjcpeogecbgaaDoor
