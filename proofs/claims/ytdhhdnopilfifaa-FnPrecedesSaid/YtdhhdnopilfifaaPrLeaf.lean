/-
  The builder of trees: its state; str, leaf. (Printed by wip/gen_leaf.py.)
-/
import Derived.Test.YtdhhdnopilfifaaPrIShaped
namespace Go.Proofs.Ytdhhdnopilfifaa
open Go.RowKit

/-- What the builder works on: the nodes, its own block, the block of places. -/
structure Cx where
  b : Nat
  o : Nat
  n : Nat
  c : Nat
  es : List ND
  kl : Nat → List Nat
  B : Nat
  bB : Nat
  pl : Nat
  cp : Nat
def Cx.cells (X : Cx) : Array Value := #[.slice (some ⟨X.b, X.o, none⟩) X.n X.c, .bool false, .bool false, .slice (some ⟨X.pl, 0, none⟩) X.n X.cp]
def Cx.Inv (X : Cx) (w : World) : Prop :=
  Nodes w X.B (some ⟨X.b, X.o, none⟩) X.n X.es ∧ X.B ≤ w.heap.size ∧ X.B ≤ X.pl ∧ Blk w X.bB 43 X.cells ∧ ∃ cs, Blk w X.pl 32 cs ∧ cs.size = X.n
def Cx.OK (X : Cx) : Prop := X.n ≤ 400 ∧ RightT X.es X.kl ∧ X.es.length = X.n
/-- Only places have turned. -/
def Cx.Go (X : Cx) (w w' : World) : Prop := w.grownBy w' (some X.pl) ∧ X.Inv w'
theorem grown_of_below {w w' : World} (h : Below w.heap.size w w') (row : Option Nat) : w.grownBy w' row := ⟨h.os, h.tape, h.output, h.size, fun k hk _ => h.block k hk⟩
theorem Cx.Inv.below {X : Cx} {w w' : World} (h : X.Inv w) (hb : Below w.heap.size w w') : X.Inv w' := by
  obtain ⟨h1, h2, h3, h4, cs, h5, h6⟩ := h
  exact ⟨h1.below hb h2, Nat.le_trans h2 hb.size, h3, h4.below hb h4.lt, cs, h5.below hb h5.lt, h6⟩
theorem Cx.Inv.go {X : Cx} {w w' : World} (h : X.Inv w) (hb : Below w.heap.size w w') : X.Go w w' := ⟨grown_of_below hb _, h.below hb⟩
theorem Cx.Go.trans {X : Cx} {a b c : World} (h : X.Go a b) (k : X.Go b c) : X.Go a c := by
  refine ⟨⟨k.1.os.trans h.1.os, k.1.tape.trans h.1.tape, k.1.output.trans h.1.output, Nat.le_trans h.1.size k.1.size, fun i hi hne => ?_⟩, k.2⟩
  exact (k.1.block i (Nat.lt_of_lt_of_le hi h.1.size) hne).trans (h.1.block i hi hne)
theorem Cx.Go.then {X : Cx} {a b c : World} (h : X.Go a b) (hb : Below b.heap.size b c) : X.Go a c := h.trans (h.2.go hb)
/-- The type of what is made of a kind. -/
def tyOf (k : Int) : TypeId :=
  if k = 1 then 96 else
  if k = 2 then 99 else
  if k = 3 then 99 else
  if k = 4 then 102 else
  if k = 5 then 105 else
  if k = 6 then 107 else
  if k = 7 then 109 else
  if k = 8 then 111 else
  if k = 9 then 48 else
  if k = 10 then 69 else
  if k = 11 then 125 else
  if k = 12 then 175 else
  if k = 13 then 183 else
  if k = 14 then 213 else
  if k = 15 then 47 else
  if k = 16 then 47 else
  if k = 17 then 49 else
  if k = 18 then 45 else
  if k = 19 then 138 else
  if k = 20 then 70 else
  if k = 21 then 76 else
  if k = 22 then 50 else
  if k = 23 then 51 else
  if k = 24 then 72 else
  if k = 25 then 71 else
  if k = 26 then 73 else
  if k = 27 then 74 else
  if k = 28 then 75 else
  if k = 29 then 46 else
  if k = 30 then 168 else
  0
def leafK (k fl : Int) : Bool := k == 1 || k == 2 || k == 3 || k == 4 || k == 5 || k == 6 || k == 7 || k == 8 || k == 26 || k == 27 || k == 28 || (k == 9 && fl == 1)
/-- What leaf answers: a node, or none. -/
def LfPost (e : ND) (w : World) (r : Ending) (w' : World) : Prop :=
  ((leafK e.kind e.flag = true ∧ ∃ g, r = .returned (.iface (tyOf e.kind) (.pointer (some ⟨g, 0, none⟩)))) ∨ (leafK e.kind e.flag = false ∧ r = .returned .nilIface)) ∧ Below w.heap.size w w'
theorem str_any (X : Cx) (s : ByteArray) (w : World) (h : X.Inv w) : Calls Try.prog 49 #[.pointer (some ⟨X.bB, 0, none⟩), .string s] w (fun e w' => (∃ g, e = .returned (.pointer (some ⟨g, 0, none⟩))) ∧ Below w.heap.size w w') := by
  have c1 := h.2.2.2.1.cell 1
  simp only [Cx.cells, List.getElem?_toArray, List.getElem?_cons_zero, List.getElem?_cons_succ] at c1
  have H := Lib.hid h
  clear h
  go_enter Try.func49, Try.ntmps49
  go_wp2_with fail
  go_ret
  exact ⟨⟨_, rfl⟩, belowS_alloc (Below.refl _ _) _⟩
def strPost (w : World) (e : Ending) (w' : World) : Prop := (∃ g, e = .returned (.pointer (some ⟨g, 0, none⟩))) ∧ Below w.heap.size w w'
theorem lf_yes {e : ND} {w w' : World} {k : Int} {v : Value} {g : Nat} (hk : e.kind = k) (hl : leafK k e.flag = true) (hv : v = .iface (tyOf k) (.pointer (some ⟨g, 0, none⟩))) (hb : Below w.heap.size w w') : LfPost e w (.returned v) w' :=
  ⟨.inl ⟨by rw [hk]; exact hl, g, by rw [hv, hk]⟩, hb⟩
theorem lf_no {e : ND} {w w' : World} {v : Value} (hl : leafK e.kind e.flag = false) (hv : v = .nilIface) (hb : Below w.heap.size w w') : LfPost e w (.returned v) w' := ⟨.inr ⟨hl, by rw [hv]⟩, hb⟩
set_option maxRecDepth 100000 in
set_option maxHeartbeats 6400000 in
theorem leaf_any (X : Cx) (e : ND) (w : World) (h : X.Inv w) (h9 : e.kind = 9 → e.flag = 0 ∨ e.flag = 1) : Calls Try.prog 42 #[.pointer (some ⟨X.bB, 0, none⟩), .agg #[.int .i64 e.kind, .int .i64 e.op, .string e.text, .int .i64 e.flag, .int .i64 e.size]] w (LfPost e w) := by
  have H := Lib.hid h
  have c1 := h.2.2.2.1.cell 1
  simp only [Cx.cells, List.getElem?_toArray, List.getElem?_cons_zero, List.getElem?_cons_succ] at c1
  have hbl := h.2.2.2.1.lt
  obtain ⟨W1, hW1, hb0, hs0, x0, x1, x2, x3, x4⟩ := box_facts e w
  have HB0 := Lib.hid hb0
  have d1 := (hb0.cell (p := ⟨X.bB, 1, none⟩) hbl).trans c1
  have KS := Lib.hid (fun (w' : World) (hb : Below w.heap.size w w') => str_any X e.text w' (H.out.below hb))
  clear h hb0 c1
  by_cases k1 : e.kind = 1
  · have HK := Lib.hid k1
    clear h9
    clear k1 
    have q1 : (e.kind == 1) = true := by rw [HK.out]; rfl
    have q2 : (e.kind == 2) = false := by rw [HK.out]; rfl
    have q3 : (e.kind == 3) = false := by rw [HK.out]; rfl
    have q4 : (e.kind == 4) = false := by rw [HK.out]; rfl
    have q5 : (e.kind == 5) = false := by rw [HK.out]; rfl
    have q6 : (e.kind == 6) = false := by rw [HK.out]; rfl
    have q7 : (e.kind == 7) = false := by rw [HK.out]; rfl
    have q8 : (e.kind == 8) = false := by rw [HK.out]; rfl
    have q26 : (e.kind == 26) = false := by rw [HK.out]; rfl
    have q27 : (e.kind == 27) = false := by rw [HK.out]; rfl
    have q28 : (e.kind == 28) = false := by rw [HK.out]; rfl
    have q9 : (e.kind == 9) = false := by rw [HK.out]; rfl
    go_enter Try.func42, Try.ntmps42
    go_wp2_with fail
    go_ret
    exact lf_yes HK.out rfl rfl (by repeat (first | exact HBX.out | exact HB0.out | apply belowS_alloc))
  by_cases k2 : e.kind = 2
  · have HK := Lib.hid k2
    clear h9
    clear k2 k1
    have q1 : (e.kind == 1) = false := by rw [HK.out]; rfl
    have q2 : (e.kind == 2) = true := by rw [HK.out]; rfl
    have q3 : (e.kind == 3) = false := by rw [HK.out]; rfl
    have q4 : (e.kind == 4) = false := by rw [HK.out]; rfl
    have q5 : (e.kind == 5) = false := by rw [HK.out]; rfl
    have q6 : (e.kind == 6) = false := by rw [HK.out]; rfl
    have q7 : (e.kind == 7) = false := by rw [HK.out]; rfl
    have q8 : (e.kind == 8) = false := by rw [HK.out]; rfl
    have q26 : (e.kind == 26) = false := by rw [HK.out]; rfl
    have q27 : (e.kind == 27) = false := by rw [HK.out]; rfl
    have q28 : (e.kind == 28) = false := by rw [HK.out]; rfl
    have q9 : (e.kind == 9) = false := by rw [HK.out]; rfl
    go_enter Try.func42, Try.ntmps42
    go_wp2_with fail
    go_ret
    exact lf_yes HK.out rfl rfl (by repeat (first | exact HBX.out | exact HB0.out | apply belowS_alloc))
  by_cases k3 : e.kind = 3
  · have HK := Lib.hid k3
    clear h9
    clear k3 k1 k2
    have q1 : (e.kind == 1) = false := by rw [HK.out]; rfl
    have q2 : (e.kind == 2) = false := by rw [HK.out]; rfl
    have q3 : (e.kind == 3) = true := by rw [HK.out]; rfl
    have q4 : (e.kind == 4) = false := by rw [HK.out]; rfl
    have q5 : (e.kind == 5) = false := by rw [HK.out]; rfl
    have q6 : (e.kind == 6) = false := by rw [HK.out]; rfl
    have q7 : (e.kind == 7) = false := by rw [HK.out]; rfl
    have q8 : (e.kind == 8) = false := by rw [HK.out]; rfl
    have q26 : (e.kind == 26) = false := by rw [HK.out]; rfl
    have q27 : (e.kind == 27) = false := by rw [HK.out]; rfl
    have q28 : (e.kind == 28) = false := by rw [HK.out]; rfl
    have q9 : (e.kind == 9) = false := by rw [HK.out]; rfl
    go_enter Try.func42, Try.ntmps42
    go_wp2_with fail
    go_ret
    exact lf_yes HK.out rfl rfl (by repeat (first | exact HBX.out | exact HB0.out | apply belowS_alloc))
  by_cases k4 : e.kind = 4
  · have HK := Lib.hid k4
    clear h9
    clear k4 k1 k2 k3
    have q1 : (e.kind == 1) = false := by rw [HK.out]; rfl
    have q2 : (e.kind == 2) = false := by rw [HK.out]; rfl
    have q3 : (e.kind == 3) = false := by rw [HK.out]; rfl
    have q4 : (e.kind == 4) = true := by rw [HK.out]; rfl
    have q5 : (e.kind == 5) = false := by rw [HK.out]; rfl
    have q6 : (e.kind == 6) = false := by rw [HK.out]; rfl
    have q7 : (e.kind == 7) = false := by rw [HK.out]; rfl
    have q8 : (e.kind == 8) = false := by rw [HK.out]; rfl
    have q26 : (e.kind == 26) = false := by rw [HK.out]; rfl
    have q27 : (e.kind == 27) = false := by rw [HK.out]; rfl
    have q28 : (e.kind == 28) = false := by rw [HK.out]; rfl
    have q9 : (e.kind == 9) = false := by rw [HK.out]; rfl
    go_enter Try.func42, Try.ntmps42
    go_wp2_with fail
    go_ret
    exact lf_yes HK.out rfl rfl (by repeat (first | exact HBX.out | exact HB0.out | apply belowS_alloc))
  by_cases k5 : e.kind = 5
  · have HK := Lib.hid k5
    clear h9
    clear k5 k1 k2 k3 k4
    have q1 : (e.kind == 1) = false := by rw [HK.out]; rfl
    have q2 : (e.kind == 2) = false := by rw [HK.out]; rfl
    have q3 : (e.kind == 3) = false := by rw [HK.out]; rfl
    have q4 : (e.kind == 4) = false := by rw [HK.out]; rfl
    have q5 : (e.kind == 5) = true := by rw [HK.out]; rfl
    have q6 : (e.kind == 6) = false := by rw [HK.out]; rfl
    have q7 : (e.kind == 7) = false := by rw [HK.out]; rfl
    have q8 : (e.kind == 8) = false := by rw [HK.out]; rfl
    have q26 : (e.kind == 26) = false := by rw [HK.out]; rfl
    have q27 : (e.kind == 27) = false := by rw [HK.out]; rfl
    have q28 : (e.kind == 28) = false := by rw [HK.out]; rfl
    have q9 : (e.kind == 9) = false := by rw [HK.out]; rfl
    go_enter Try.func42, Try.ntmps42
    go_wp2_with fail
    refine (KS.out _ HB0.out).mono ?_
    rintro e1 w1 ⟨⟨g1, rfl⟩, hb1⟩
    have HBX := Lib.hid (HB0.out.trans (hb1.mono HB0.out.size))
    clear hb1
    go_wp2_with fail
    go_ret
    exact lf_yes HK.out rfl rfl (by repeat (first | exact HBX.out | exact HB0.out | apply belowS_alloc))
  by_cases k6 : e.kind = 6
  · have HK := Lib.hid k6
    clear h9
    clear k6 k1 k2 k3 k4 k5
    have q1 : (e.kind == 1) = false := by rw [HK.out]; rfl
    have q2 : (e.kind == 2) = false := by rw [HK.out]; rfl
    have q3 : (e.kind == 3) = false := by rw [HK.out]; rfl
    have q4 : (e.kind == 4) = false := by rw [HK.out]; rfl
    have q5 : (e.kind == 5) = false := by rw [HK.out]; rfl
    have q6 : (e.kind == 6) = true := by rw [HK.out]; rfl
    have q7 : (e.kind == 7) = false := by rw [HK.out]; rfl
    have q8 : (e.kind == 8) = false := by rw [HK.out]; rfl
    have q26 : (e.kind == 26) = false := by rw [HK.out]; rfl
    have q27 : (e.kind == 27) = false := by rw [HK.out]; rfl
    have q28 : (e.kind == 28) = false := by rw [HK.out]; rfl
    have q9 : (e.kind == 9) = false := by rw [HK.out]; rfl
    go_enter Try.func42, Try.ntmps42
    go_wp2_with fail
    go_ret
    exact lf_yes HK.out rfl rfl (by repeat (first | exact HBX.out | exact HB0.out | apply belowS_alloc))
  by_cases k7 : e.kind = 7
  · have HK := Lib.hid k7
    clear h9
    clear k7 k1 k2 k3 k4 k5 k6
    have q1 : (e.kind == 1) = false := by rw [HK.out]; rfl
    have q2 : (e.kind == 2) = false := by rw [HK.out]; rfl
    have q3 : (e.kind == 3) = false := by rw [HK.out]; rfl
    have q4 : (e.kind == 4) = false := by rw [HK.out]; rfl
    have q5 : (e.kind == 5) = false := by rw [HK.out]; rfl
    have q6 : (e.kind == 6) = false := by rw [HK.out]; rfl
    have q7 : (e.kind == 7) = true := by rw [HK.out]; rfl
    have q8 : (e.kind == 8) = false := by rw [HK.out]; rfl
    have q26 : (e.kind == 26) = false := by rw [HK.out]; rfl
    have q27 : (e.kind == 27) = false := by rw [HK.out]; rfl
    have q28 : (e.kind == 28) = false := by rw [HK.out]; rfl
    have q9 : (e.kind == 9) = false := by rw [HK.out]; rfl
    go_enter Try.func42, Try.ntmps42
    go_wp2_with fail
    go_ret
    exact lf_yes HK.out rfl rfl (by repeat (first | exact HBX.out | exact HB0.out | apply belowS_alloc))
  by_cases k8 : e.kind = 8
  · have HK := Lib.hid k8
    clear h9
    clear k8 k1 k2 k3 k4 k5 k6 k7
    have q1 : (e.kind == 1) = false := by rw [HK.out]; rfl
    have q2 : (e.kind == 2) = false := by rw [HK.out]; rfl
    have q3 : (e.kind == 3) = false := by rw [HK.out]; rfl
    have q4 : (e.kind == 4) = false := by rw [HK.out]; rfl
    have q5 : (e.kind == 5) = false := by rw [HK.out]; rfl
    have q6 : (e.kind == 6) = false := by rw [HK.out]; rfl
    have q7 : (e.kind == 7) = false := by rw [HK.out]; rfl
    have q8 : (e.kind == 8) = true := by rw [HK.out]; rfl
    have q26 : (e.kind == 26) = false := by rw [HK.out]; rfl
    have q27 : (e.kind == 27) = false := by rw [HK.out]; rfl
    have q28 : (e.kind == 28) = false := by rw [HK.out]; rfl
    have q9 : (e.kind == 9) = false := by rw [HK.out]; rfl
    go_enter Try.func42, Try.ntmps42
    go_wp2_with fail
    go_ret
    exact lf_yes HK.out rfl rfl (by repeat (first | exact HBX.out | exact HB0.out | apply belowS_alloc))
  by_cases k26 : e.kind = 26
  · have HK := Lib.hid k26
    clear h9
    clear k26 k1 k2 k3 k4 k5 k6 k7 k8
    have q1 : (e.kind == 1) = false := by rw [HK.out]; rfl
    have q2 : (e.kind == 2) = false := by rw [HK.out]; rfl
    have q3 : (e.kind == 3) = false := by rw [HK.out]; rfl
    have q4 : (e.kind == 4) = false := by rw [HK.out]; rfl
    have q5 : (e.kind == 5) = false := by rw [HK.out]; rfl
    have q6 : (e.kind == 6) = false := by rw [HK.out]; rfl
    have q7 : (e.kind == 7) = false := by rw [HK.out]; rfl
    have q8 : (e.kind == 8) = false := by rw [HK.out]; rfl
    have q26 : (e.kind == 26) = true := by rw [HK.out]; rfl
    have q27 : (e.kind == 27) = false := by rw [HK.out]; rfl
    have q28 : (e.kind == 28) = false := by rw [HK.out]; rfl
    have q9 : (e.kind == 9) = false := by rw [HK.out]; rfl
    go_enter Try.func42, Try.ntmps42
    go_wp2_with fail
    refine (KS.out _ HB0.out).mono ?_
    rintro e1 w1 ⟨⟨g1, rfl⟩, hb1⟩
    have HBX := Lib.hid (HB0.out.trans (hb1.mono HB0.out.size))
    clear hb1
    go_wp2_with fail
    go_ret
    exact lf_yes HK.out rfl rfl (by repeat (first | exact HBX.out | exact HB0.out | apply belowS_alloc))
  by_cases k27 : e.kind = 27
  · have HK := Lib.hid k27
    clear h9
    clear k27 k1 k2 k3 k4 k5 k6 k7 k8 k26
    have q1 : (e.kind == 1) = false := by rw [HK.out]; rfl
    have q2 : (e.kind == 2) = false := by rw [HK.out]; rfl
    have q3 : (e.kind == 3) = false := by rw [HK.out]; rfl
    have q4 : (e.kind == 4) = false := by rw [HK.out]; rfl
    have q5 : (e.kind == 5) = false := by rw [HK.out]; rfl
    have q6 : (e.kind == 6) = false := by rw [HK.out]; rfl
    have q7 : (e.kind == 7) = false := by rw [HK.out]; rfl
    have q8 : (e.kind == 8) = false := by rw [HK.out]; rfl
    have q26 : (e.kind == 26) = false := by rw [HK.out]; rfl
    have q27 : (e.kind == 27) = true := by rw [HK.out]; rfl
    have q28 : (e.kind == 28) = false := by rw [HK.out]; rfl
    have q9 : (e.kind == 9) = false := by rw [HK.out]; rfl
    go_enter Try.func42, Try.ntmps42
    go_wp2_with fail
    refine (KS.out _ HB0.out).mono ?_
    rintro e1 w1 ⟨⟨g1, rfl⟩, hb1⟩
    have HBX := Lib.hid (HB0.out.trans (hb1.mono HB0.out.size))
    clear hb1
    go_wp2_with fail
    go_ret
    exact lf_yes HK.out rfl rfl (by repeat (first | exact HBX.out | exact HB0.out | apply belowS_alloc))
  by_cases k28 : e.kind = 28
  · have HK := Lib.hid k28
    clear h9
    clear k28 k1 k2 k3 k4 k5 k6 k7 k8 k26 k27
    have q1 : (e.kind == 1) = false := by rw [HK.out]; rfl
    have q2 : (e.kind == 2) = false := by rw [HK.out]; rfl
    have q3 : (e.kind == 3) = false := by rw [HK.out]; rfl
    have q4 : (e.kind == 4) = false := by rw [HK.out]; rfl
    have q5 : (e.kind == 5) = false := by rw [HK.out]; rfl
    have q6 : (e.kind == 6) = false := by rw [HK.out]; rfl
    have q7 : (e.kind == 7) = false := by rw [HK.out]; rfl
    have q8 : (e.kind == 8) = false := by rw [HK.out]; rfl
    have q26 : (e.kind == 26) = false := by rw [HK.out]; rfl
    have q27 : (e.kind == 27) = false := by rw [HK.out]; rfl
    have q28 : (e.kind == 28) = true := by rw [HK.out]; rfl
    have q9 : (e.kind == 9) = false := by rw [HK.out]; rfl
    go_enter Try.func42, Try.ntmps42
    go_wp2_with fail
    refine (KS.out _ HB0.out).mono ?_
    rintro e1 w1 ⟨⟨g1, rfl⟩, hb1⟩
    have HBX := Lib.hid (HB0.out.trans (hb1.mono HB0.out.size))
    clear hb1
    go_wp2_with fail
    go_ret
    exact lf_yes HK.out rfl rfl (by repeat (first | exact HBX.out | exact HB0.out | apply belowS_alloc))
  by_cases k9 : e.kind = 9
  · have HK := Lib.hid k9
    have h9 := h9 k9
    clear k9 k1 k2 k3 k4 k5 k6 k7 k8 k26 k27 k28
    have q1 : (e.kind == 1) = false := by rw [HK.out]; rfl
    have q2 : (e.kind == 2) = false := by rw [HK.out]; rfl
    have q3 : (e.kind == 3) = false := by rw [HK.out]; rfl
    have q4 : (e.kind == 4) = false := by rw [HK.out]; rfl
    have q5 : (e.kind == 5) = false := by rw [HK.out]; rfl
    have q6 : (e.kind == 6) = false := by rw [HK.out]; rfl
    have q7 : (e.kind == 7) = false := by rw [HK.out]; rfl
    have q8 : (e.kind == 8) = false := by rw [HK.out]; rfl
    have q26 : (e.kind == 26) = false := by rw [HK.out]; rfl
    have q27 : (e.kind == 27) = false := by rw [HK.out]; rfl
    have q28 : (e.kind == 28) = false := by rw [HK.out]; rfl
    have q9 : (e.kind == 9) = true := by rw [HK.out]; rfl
    rcases h9 with hf | hf
    · have HF := Lib.hid hf
      have f1 : (e.flag == 1) = false := by rw [hf]; rfl
      clear hf
      go_enter Try.func42, Try.ntmps42
      go_wp2_with fail
      go_ret
      exact lf_no (by rw [HK.out, HF.out]; rfl) rfl HB0.out
    · have HF := Lib.hid hf
      have f1 : (e.flag == 1) = true := by rw [hf]; rfl
      clear hf
      go_enter Try.func42, Try.ntmps42
      go_wp2_with fail
      go_ret
      exact lf_yes HK.out (by rw [HF.out]; rfl) rfl (by repeat (first | exact HBX.out | exact HB0.out | apply belowS_alloc))
  have HLF : Hid (leafK e.kind e.flag = false) := Lib.hid (by unfold leafK; simp; omega)
  have q1 : (e.kind == 1) = false := by simpa using k1
  have q2 : (e.kind == 2) = false := by simpa using k2
  have q3 : (e.kind == 3) = false := by simpa using k3
  have q4 : (e.kind == 4) = false := by simpa using k4
  have q5 : (e.kind == 5) = false := by simpa using k5
  have q6 : (e.kind == 6) = false := by simpa using k6
  have q7 : (e.kind == 7) = false := by simpa using k7
  have q8 : (e.kind == 8) = false := by simpa using k8
  have q26 : (e.kind == 26) = false := by simpa using k26
  have q27 : (e.kind == 27) = false := by simpa using k27
  have q28 : (e.kind == 28) = false := by simpa using k28
  have q9 : (e.kind == 9) = false := by simpa using k9
  clear h9 k1 k2 k3 k4 k5 k6 k7 k8 k26 k27 k28 k9
  go_enter Try.func42, Try.ntmps42
  go_wp2_with fail
  go_ret
  exact lf_no HLF.out rfl HB0.out
end Go.Proofs.Ytdhhdnopilfifaa
