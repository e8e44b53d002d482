/-
  The builder: assert.
-/
import Derived.Test.YtdhhdnopilfifaaPrCond
namespace Go.Proofs.Ytdhhdnopilfifaa
open Go.RowKit

theorem keepK2 {X : Cx} {w w' : World} (h : X.Go w w') (hi : X.Inv w) {n c g off : Nat} {l : List Nat} (hk : KidsOK w n (some ⟨g, off, none⟩) c l) {k0 k2 : Nat} (h0 : l[0]? = some k0) (h1 : l[2]? = some k2) :
    X.Go w w' ∧ w'.cell? ⟨g, off, none⟩ = some (.int .i64 k0) ∧ w'.cell? ⟨g, off + 2, none⟩ = some (.int .i64 k2) :=
  ⟨h, h.cellK hi hk h0, h.cellK hi hk h1⟩
/-- A box of a node is entered. -/
theorem box_in (X : Cx) (e : ND) (w : World) (h : X.Inv w) : ∃ W1, w.alloc (.cells #[.int .i64 e.kind, .int .i64 e.op, .string e.text, .int .i64 e.flag, .int .i64 e.size] 26) = W1 ∧ X.Go w W1 ∧ X.Inv W1 ∧
    Blk W1 w.heap.size 26 #[.int .i64 e.kind, .int .i64 e.op, .string e.text, .int .i64 e.flag, .int .i64 e.size] := by
  have hb : Below w.heap.size w (w.alloc (.cells #[.int .i64 e.kind, .int .i64 e.op, .string e.text, .int .i64 e.flag, .int .i64 e.size] 26)) := belowS_alloc (Below.refl _ _) _
  exact ⟨_, rfl, h.go hb, h.below hb, Blk.new _ _ _⟩
set_option maxRecDepth 100000 in
set_option maxHeartbeats 3200000 in
theorem assert2 (X : Cx) (e : ND) (w : World) (h : X.Inv w) (A2 : Option Addr) (c2 : Nat) (k0 k1 : Nat) (hf : e.flag = 0) (hk : KidsOK w X.n A2 c2 [k0, k1]) (h0 : NodeC X k0) (h1 : NodeC X k1) :
    Calls Try.prog 61 #[.pointer (some ⟨X.bB, 0, none⟩), .agg #[.int .i64 e.kind, .int .i64 e.op, .string e.text, .int .i64 e.flag, .int .i64 e.size], .slice A2 2 c2] w (TyPost X 71 w) := by
  obtain ⟨W1, hW1, hgo, hin, hbk⟩ := box_in X e w h
  have hk1 := hgo.kids h hk
  obtain ⟨kd, op, tx, fl, sz⟩ := e
  simp only at *
  subst hf
  have H := Lib.hid hin
  have HK := Lib.hid hk1
  have HBk := Lib.hid hbk
  have HG := Lib.hid hgo
  have x3 := hbk.cell 3
  simp only [List.getElem?_toArray, List.getElem?_cons_zero, List.getElem?_cons_succ] at x3
  obtain ⟨g, off, rfl, hgl, hc0, -⟩ := hk1.cell (j := 0) (k := k0) rfl
  obtain ⟨g', off', hA, -, hc1, -⟩ := hk1.cell (j := 1) (k := k1) rfl
  cases hA
  simp only [Nat.add_zero] at hc0
  obtain ⟨x0, -, K0⟩ := h0
  obtain ⟨x1, -, K1⟩ := h1
  have KC := Lib.hid (count_any X W1 (some ⟨g, off, none⟩) c2 2 2 2 (by decide) (by decide))
  have KK0 := Lib.hid (fun (w' : World) (hg : X.Go W1 w') => K0 w' hg.2)
  have KK1 := Lib.hid (fun (w' : World) (hg : X.Go W1 w') => K1 w' hg.2)
  have HG0 := Lib.hid (hin.go (Below.refl _ _))
  clear h hk K0 K1 hin hk1 hbk hgo
  have wr1 : IntKind.i64.wrap 1 = 1 := by decide
  go_enter Try.func61, Try.ntmps61
  go_wp2_with fail
  refine KC.out.mono ?_
  rintro e1 w1 ⟨rfl, hw1⟩
  have HG1 := Lib.hid (HG0.out.then hw1)
  have d0 := HG1.out.cellK H.out HK.out (j := 0) (k := k0) rfl
  have d1 := HG1.out.cellK H.out HK.out (j := 1) (k := k1) rfl
  simp only [Nat.add_zero] at d0
  clear hw1
  go_wp2_with fail
  go_region_held3 (fun w' => X.Go W1 w' ∧ w'.cell? ⟨g, off, none⟩ = some (.int .i64 k0) ∧ w'.cell? ⟨g, off + 1, none⟩ = some (.int .i64 k1))
    ((refine keepK ?_ H.out HK.out rfl rfl; repeat (first | with_reducible exact hk9 | with_reducible exact hk8 | with_reducible exact HG1.out | with_reducible apply Cx.Go.drew | with_reducible apply Cx.Go.alloc)))
    (first
      | (go_at_call 22; rw [show (#[.pointer (some ⟨X.bB, 0, none⟩), .int .i64 (k0 : Int)] : Array Value) = #[.pointer (some ⟨X.bB, 0, none⟩), .int .i64 (k0 : Int)] from rfl]; refine (KK0.out _ (by first | exact HG1.out.drew | exact HG1.out)).mono ?_; rintro e8 w8 ⟨⟨g8, rfl, -⟩, h8⟩; have hk8 : X.Go W1 w8 := (by first | exact HG1.out.drew.trans h8 | exact HG1.out.trans h8))
      | (go_at_call 22; refine (KK1.out _ hk8).mono ?_; rintro e9 w9 ⟨⟨g9, rfl, -⟩, h9⟩; have hk9 : X.Go W1 w9 := hk8.trans h9))
  all_goals
    generalize tyOf x0.kind = t0 at *
    generalize tyOf x1.kind = t1 at *
    have hA := Lib.hid (hk9.alloc (.cells #[.iface t0 (.pointer (some ⟨g8, 0, none⟩)), .nilIface, .iface t1 (.pointer (some ⟨g9, 0, none⟩)), .slice none 0 0, .slice none 0 0, .slice none 0 0, .pointer none, .slice none 0 0, .pointer none, .string ⟨#[]⟩, .int .i64 0, .int .i64 0, .int .i64 0, .int .i64 0] 206))
    have hB := hA.out.blk H.out HBk.out (by decide)
    have y3 := hB.cell 3
    simp only [List.getElem?_toArray, List.getElem?_cons_zero, List.getElem?_cons_succ] at y3
    go_wp2_with fail
    go_ret
    exact ⟨⟨_, rfl⟩, HG.out.trans hA.out⟩
set_option maxRecDepth 100000 in
set_option maxHeartbeats 3200000 in
theorem assert3 (X : Cx) (e : ND) (w : World) (h : X.Inv w) (A2 : Option Addr) (c2 : Nat) (k0 k1 k2 : Nat) (hf : e.flag = 1) (hk : KidsOK w X.n A2 c2 [k0, k1, k2]) (h0 : NodeC X k0) (h1 : NodeC X k1) (h2 : NodeC X k2) :
    Calls Try.prog 61 #[.pointer (some ⟨X.bB, 0, none⟩), .agg #[.int .i64 e.kind, .int .i64 e.op, .string e.text, .int .i64 e.flag, .int .i64 e.size], .slice A2 3 c2] w (TyPost X 71 w) := by
  obtain ⟨W1, hW1, hgo, hin, hbk⟩ := box_in X e w h
  have hk1 := hgo.kids h hk
  obtain ⟨kd, op, tx, fl, sz⟩ := e
  simp only at *
  subst hf
  have H := Lib.hid hin
  have HK := Lib.hid hk1
  have HBk := Lib.hid hbk
  have HG := Lib.hid hgo
  have x3 := hbk.cell 3
  simp only [List.getElem?_toArray, List.getElem?_cons_zero, List.getElem?_cons_succ] at x3
  obtain ⟨g, off, rfl, hgl, hc0, -⟩ := hk1.cell (j := 0) (k := k0) rfl
  obtain ⟨g', off', hA, -, hc1, -⟩ := hk1.cell (j := 2) (k := k2) rfl
  cases hA
  simp only [Nat.add_zero] at hc0
  obtain ⟨x0, -, K0⟩ := h0
  obtain ⟨x1, -, K1⟩ := h1
  obtain ⟨x2, -, K2⟩ := h2
  have KC := Lib.hid (count_any X W1 (some ⟨g, off, none⟩) c2 3 3 3 (by decide) (by decide))
  have KK0 := Lib.hid (fun (w' : World) (hg : X.Go W1 w') => K0 w' hg.2)
  have KK1 := Lib.hid (fun (w' : World) (hg : X.Go W1 w') => K1 w' hg.2)
  have KK2 := Lib.hid (fun (w' : World) (hg : X.Go W1 w') => K2 w' hg.2)
  have HG0 := Lib.hid (hin.go (Below.refl _ _))
  clear h hk K0 K1 K2 hin hk1 hbk hgo
  have wr1 : IntKind.i64.wrap 2 = 2 := by decide
  go_enter Try.func61, Try.ntmps61
  go_wp2_with fail
  refine KC.out.mono ?_
  rintro e1 w1 ⟨rfl, hw1⟩
  have HG1 := Lib.hid (HG0.out.then hw1)
  have d0 := HG1.out.cellK H.out HK.out (j := 0) (k := k0) rfl
  have d1 := HG1.out.cellK H.out HK.out (j := 2) (k := k2) rfl
  simp only [Nat.add_zero] at d0
  clear hw1
  go_wp2_with fail
  go_region_held3 (fun w' => X.Go W1 w' ∧ w'.cell? ⟨g, off, none⟩ = some (.int .i64 k0) ∧ w'.cell? ⟨g, off + 2, none⟩ = some (.int .i64 k2))
    ((refine keepK2 ?_ H.out HK.out rfl rfl; repeat (first | with_reducible exact hk9 | with_reducible exact hk8 | with_reducible exact HG1.out | with_reducible apply Cx.Go.drew | with_reducible apply Cx.Go.alloc)))
    (first
      | (go_at_call 22; rw [show (#[.pointer (some ⟨X.bB, 0, none⟩), .int .i64 (k0 : Int)] : Array Value) = #[.pointer (some ⟨X.bB, 0, none⟩), .int .i64 (k0 : Int)] from rfl]; refine (KK0.out _ (by first | exact HG1.out.drew | exact HG1.out)).mono ?_; rintro e8 w8 ⟨⟨g8, rfl, -⟩, h8⟩; have hk8 : X.Go W1 w8 := (by first | exact HG1.out.drew.trans h8 | exact HG1.out.trans h8))
      | (go_at_call 22; refine (KK2.out _ hk8).mono ?_; rintro e9 w9 ⟨⟨g9, rfl, -⟩, h9⟩; have hk9 : X.Go W1 w9 := hk8.trans h9))
  all_goals
    generalize tyOf x0.kind = t0 at *
    generalize tyOf x2.kind = t1 at *
    have hw9 : w.heap.size ≤ w9.heap.size := Nat.le_trans HG.out.1.size hk9.1.size
    have hA := Lib.hid (hk9.alloc (.cells #[.iface t0 (.pointer (some ⟨g8, 0, none⟩)), .nilIface, .iface t1 (.pointer (some ⟨g9, 0, none⟩)), .slice none 0 0, .slice none 0 0, .slice none 0 0, .pointer none, .slice none 0 0, .pointer none, .string ⟨#[]⟩, .int .i64 0, .int .i64 0, .int .i64 0, .int .i64 0] 206))
    have hB := hA.out.blk H.out HBk.out (by decide)
    have y3 := hB.cell 3
    simp only [List.getElem?_toArray, List.getElem?_cons_zero, List.getElem?_cons_succ] at y3
    have d3 := hA.out.cellK H.out HK.out (j := 1) (k := k1) rfl
    have hw1 : W1.heap.size ≤ w9.heap.size := hk9.1.size
    go_wp2_with fail
    refine (KK1.out _ hA.out).mono ?_
    rintro e2 w2 ⟨⟨g2, rfl, -⟩, hgo2⟩
    generalize tyOf x1.kind = t2 at *
    have HB := hgo2.blk hA.out.2 (Blk.new w9 206 #[.iface t0 (.pointer (some ⟨g8, 0, none⟩)), .nilIface, .iface t1 (.pointer (some ⟨g9, 0, none⟩)), .slice none 0 0, .slice none 0 0, .slice none 0 0, .pointer none, .slice none 0 0, .pointer none, .string ⟨#[]⟩, .int .i64 0, .int .i64 0, .int .i64 0, .int .i64 0]) (by decide)
    have e2 := HB.cell 1
    have f2 := HB.frozen 1
    simp only [List.getElem?_toArray, List.getElem?_cons_zero, List.getElem?_cons_succ] at e2
    have HG2 := Lib.hid (hA.out.trans hgo2)
    clear hgo2 HB
    go_wp2_with fail
    go_ret
    exact ⟨⟨_, rfl⟩, HG.out.trans (HG2.out.set H.out hw1 _)⟩
end Go.Proofs.Ytdhhdnopilfifaa
