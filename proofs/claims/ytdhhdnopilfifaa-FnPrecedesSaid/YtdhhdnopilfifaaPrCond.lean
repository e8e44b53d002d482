/-
  The builder: conditional.
-/
import Derived.Test.YtdhhdnopilfifaaPrMany
import Derived.Deep.RegionHeld3
namespace Go.Proofs.Ytdhhdnopilfifaa
open Go.RowKit

/-- A node of a type is answered. -/
def TyPost (X : Cx) (t : TypeId) (w : World) (e : Ending) (w' : World) : Prop := (∃ g, e = .returned (.iface t (.pointer (some ⟨g, 0, none⟩)))) ∧ X.Go w w'
theorem Cx.Inv.drew {X : Cx} {w : World} (h : X.Inv w) : X.Inv w.drew := h.below (Below.refl _ _).drew
theorem Cx.Go.drew {X : Cx} {a b : World} (h : X.Go a b) : X.Go a b.drew := h.then (Below.refl _ _).drew
theorem Cx.Go.alloc {X : Cx} {a b : World} (h : X.Go a b) (o : Obj) : X.Go a (b.alloc o) := h.then (belowS_alloc (Below.refl _ _) o)
theorem Cx.Go.of_drew {X : Cx} {a b c : World} (h : X.Go a b) (k : X.Go b.drew c) : X.Go a c := h.drew.trans k
theorem Cx.Go.cellK {X : Cx} {w w' : World} (h : X.Go w w') (hi : X.Inv w) {n c g off : Nat} {l : List Nat} (hk : KidsOK w n (some ⟨g, off, none⟩) c l) {j k : Nat} (hj : l[j]? = some k) : w'.cell? ⟨g, off + j, none⟩ = some (.int .i64 k) := by
  obtain ⟨g', off', hA, -, hc, -⟩ := (h.kids hi hk).cell hj
  cases hA
  exact hc
theorem keepK {X : Cx} {w w' : World} (h : X.Go w w') (hi : X.Inv w) {n c g off : Nat} {l : List Nat} (hk : KidsOK w n (some ⟨g, off, none⟩) c l) {k0 k1 : Nat} (h0 : l[0]? = some k0) (h1 : l[1]? = some k1) :
    X.Go w w' ∧ w'.cell? ⟨g, off, none⟩ = some (.int .i64 k0) ∧ w'.cell? ⟨g, off + 1, none⟩ = some (.int .i64 k1) :=
  ⟨h, h.cellK hi hk h0, h.cellK hi hk h1⟩
set_option maxRecDepth 100000 in
set_option maxHeartbeats 3200000 in
theorem conditional2 (X : Cx) (w : World) (h : X.Inv w) (A2 : Option Addr) (c2 : Nat) (k0 k1 : Nat) (hk : KidsOK w X.n A2 c2 [k0, k1]) (h0 : NodeC X k0) (h1 : NodeC X k1) :
    Calls Try.prog 55 #[.pointer (some ⟨X.bB, 0, none⟩), .slice A2 2 c2] w (TyPost X 76 w) := by
  have H := Lib.hid h
  have HK := Lib.hid hk
  obtain ⟨g, off, rfl, hgl, hc0, -⟩ := hk.cell (j := 0) (k := k0) rfl
  obtain ⟨g', off', hA, -, hc1, -⟩ := hk.cell (j := 1) (k := k1) rfl
  cases hA
  simp only [Nat.add_zero] at hc0
  have b1 := h.2.2.2.1.cell 1
  simp only [Cx.cells, List.getElem?_toArray, List.getElem?_cons_zero, List.getElem?_cons_succ] at b1
  obtain ⟨x0, -, K0⟩ := h0
  obtain ⟨x1, -, K1⟩ := h1
  have KC := Lib.hid (count_any X w (some ⟨g, off, none⟩) c2 2 2 3 (by decide) (by decide))
  have KK0 := Lib.hid (fun (w' : World) (hg : X.Go w w') => K0 w' hg.2)
  have KK1 := Lib.hid (fun (w' : World) (hg : X.Go w w') => K1 w' hg.2)
  have HG0 := Lib.hid (h.go (Below.refl _ _))
  clear h hk K0 K1
  generalize tyOf x0.kind = t0 at *
  go_enter Try.func55, Try.ntmps55
  go_wp2_with fail
  refine KC.out.mono ?_
  rintro e1 w1 ⟨rfl, hw1⟩
  have HG1 := Lib.hid (HG0.out.then hw1)
  have d0 := HG1.out.cellK H.out HK.out (j := 0) (k := k0) rfl
  have d1 := HG1.out.cellK H.out HK.out (j := 1) (k := k1) rfl
  have b1' := (hw1.cell (p := ⟨X.bB, 1, none⟩) (World.block_lt_of_cell? w _ b1)).trans b1
  simp only [Nat.add_zero] at d0
  clear hw1
  go_wp2_with fail
  go_region_held3 (fun w' => X.Go w w' ∧ w'.cell? ⟨g, off, none⟩ = some (.int .i64 k0) ∧ w'.cell? ⟨g, off + 1, none⟩ = some (.int .i64 k1))
    ((refine keepK ?_ H.out HK.out rfl rfl; repeat (first | with_reducible exact hk9 | with_reducible exact hk8 | with_reducible exact HG1.out | with_reducible apply Cx.Go.drew | with_reducible apply Cx.Go.alloc)))
    (first
      | (go_at_call 22; rw [show (#[.pointer (some ⟨X.bB, 0, none⟩), .int .i64 (k0 : Int)] : Array Value) = #[.pointer (some ⟨X.bB, 0, none⟩), .int .i64 (k0 : Int)] from rfl]; refine (KK0.out _ (by first | exact HG1.out.drew | exact HG1.out)).mono ?_; rintro e8 w8 ⟨⟨g8, rfl, -⟩, h8⟩; have hk8 : X.Go w w8 := (by first | exact HG1.out.drew.trans h8 | exact HG1.out.trans h8))
      | (go_at_call 22; refine (KK1.out _ hk8).mono ?_; rintro e9 w9 ⟨⟨g9, rfl, -⟩, h9⟩; have hk9 : X.Go w w9 := hk8.trans h9))
  all_goals
    go_wp2_with fail
    go_ret
    exact ⟨⟨_, rfl⟩, hk9.alloc _⟩
theorem Cx.Go.low {X : Cx} {a b c : World} (h : X.Go a b) (hi : X.Inv a) (hb : Below a.heap.size b c) : X.Go a c := by
  obtain ⟨hpl, hbB, hBB⟩ := hi.lts
  obtain ⟨g1, g2, g3, g4, g5⟩ := h.1
  obtain ⟨i1, i2, i3, i4, cs, i5, i6⟩ := h.2
  exact ⟨⟨hb.os.trans g1, hb.tape.trans g2, hb.output.trans g3, Nat.le_trans g4 hb.size, fun k hk hne => (hb.block k hk).trans (g5 k hk hne)⟩, ⟨i1.below hb hBB, Nat.le_trans i2 hb.size, i3, i4.below hb hbB, cs, i5.below hb hpl, i6⟩⟩
theorem Cx.Go.set {X : Cx} {a b : World} (h : X.Go a b) (hi : X.Inv a) {g i : Nat} (hg : a.heap.size ≤ g) (v : Value) : X.Go a (b.setCell ⟨g, i, none⟩ v) :=
  h.low hi ((Below.refl a.heap.size b).setCell (p := ⟨g, i, none⟩) hg v)
set_option maxRecDepth 100000 in
set_option maxHeartbeats 3200000 in
theorem conditional3 (X : Cx) (w : World) (h : X.Inv w) (A2 : Option Addr) (c2 : Nat) (k0 k1 k2 : Nat) (hk : KidsOK w X.n A2 c2 [k0, k1, k2]) (h0 : NodeC X k0) (h1 : NodeC X k1) (h2 : NodeC X k2) :
    Calls Try.prog 55 #[.pointer (some ⟨X.bB, 0, none⟩), .slice A2 3 c2] w (TyPost X 76 w) := by
  have H := Lib.hid h
  have HK := Lib.hid hk
  obtain ⟨g, off, rfl, hgl, hc0, -⟩ := hk.cell (j := 0) (k := k0) rfl
  obtain ⟨g', off', hA, -, hc1, -⟩ := hk.cell (j := 1) (k := k1) rfl
  cases hA
  simp only [Nat.add_zero] at hc0
  have b1 := h.2.2.2.1.cell 1
  simp only [Cx.cells, List.getElem?_toArray, List.getElem?_cons_zero, List.getElem?_cons_succ] at b1
  obtain ⟨x0, -, K0⟩ := h0
  obtain ⟨x1, -, K1⟩ := h1
  obtain ⟨x2, -, K2⟩ := h2
  have KC := Lib.hid (count_any X w (some ⟨g, off, none⟩) c2 3 2 3 (by decide) (by decide))
  have KK0 := Lib.hid (fun (w' : World) (hg : X.Go w w') => K0 w' hg.2)
  have KK1 := Lib.hid (fun (w' : World) (hg : X.Go w w') => K1 w' hg.2)
  have KK2 := Lib.hid (fun (w' : World) (hg : X.Go w w') => K2 w' hg.2)
  have HG0 := Lib.hid (h.go (Below.refl _ _))
  clear h hk K0 K1 K2
  generalize tyOf x0.kind = t0 at *
  generalize tyOf x1.kind = t1 at *
  generalize tyOf x2.kind = t2 at *
  go_enter Try.func55, Try.ntmps55
  go_wp2_with fail
  refine KC.out.mono ?_
  rintro e1 w1 ⟨rfl, hw1⟩
  have HG1 := Lib.hid (HG0.out.then hw1)
  have d0 := HG1.out.cellK H.out HK.out (j := 0) (k := k0) rfl
  have d1 := HG1.out.cellK H.out HK.out (j := 1) (k := k1) rfl
  have b1' := (hw1.cell (p := ⟨X.bB, 1, none⟩) (World.block_lt_of_cell? w _ b1)).trans b1
  simp only [Nat.add_zero] at d0
  clear hw1
  go_wp2_with fail
  go_region_held3 (fun w' => X.Go w w' ∧ w'.cell? ⟨g, off, none⟩ = some (.int .i64 k0) ∧ w'.cell? ⟨g, off + 1, none⟩ = some (.int .i64 k1))
    ((refine keepK ?_ H.out HK.out rfl rfl; repeat (first | with_reducible exact hk9 | with_reducible exact hk8 | with_reducible exact HG1.out | with_reducible apply Cx.Go.drew | with_reducible apply Cx.Go.alloc)))
    (first
      | (go_at_call 22; rw [show (#[.pointer (some ⟨X.bB, 0, none⟩), .int .i64 (k0 : Int)] : Array Value) = #[.pointer (some ⟨X.bB, 0, none⟩), .int .i64 (k0 : Int)] from rfl]; refine (KK0.out _ (by first | exact HG1.out.drew | exact HG1.out)).mono ?_; rintro e8 w8 ⟨⟨g8, rfl, -⟩, h8⟩; have hk8 : X.Go w w8 := (by first | exact HG1.out.drew.trans h8 | exact HG1.out.trans h8))
      | (go_at_call 22; refine (KK1.out _ hk8).mono ?_; rintro e9 w9 ⟨⟨g9, rfl, -⟩, h9⟩; have hk9 : X.Go w w9 := hk8.trans h9))
  all_goals
    generalize tyOf x0.kind = t0 at *
    generalize tyOf x1.kind = t1 at *
    have hw9 : w.heap.size ≤ w9.heap.size := hk9.1.size
    have hA := Lib.hid (hk9.alloc (.cells #[.iface t0 (.pointer (some ⟨g8, 0, none⟩)), .iface t1 (.pointer (some ⟨g9, 0, none⟩)), .nilIface, .slice none 0 0, .slice none 0 0, .slice none 0 0, .pointer none, .slice none 0 0, .pointer none, .string ⟨#[]⟩, .int .i64 0, .int .i64 0, .int .i64 0, .int .i64 0] 202))
    have d2 := hA.out.cellK H.out HK.out (j := 2) (k := k2) rfl
    go_wp2_with fail
    refine (KK2.out _ (hA.out)).mono ?_
    rintro e2 w2 ⟨⟨g2, rfl, -⟩, hgo2⟩
    generalize tyOf x2.kind = t2 at *
    have HB := hgo2.blk hA.out.2 (Blk.new w9 202 #[.iface t0 (.pointer (some ⟨g8, 0, none⟩)), .iface t1 (.pointer (some ⟨g9, 0, none⟩)), .nilIface, .slice none 0 0, .slice none 0 0, .slice none 0 0, .pointer none, .slice none 0 0, .pointer none, .string ⟨#[]⟩, .int .i64 0, .int .i64 0, .int .i64 0, .int .i64 0]) (by decide)
    have e2 := HB.cell 2
    have f2 := HB.frozen 2
    simp only [List.getElem?_toArray, List.getElem?_cons_zero, List.getElem?_cons_succ] at e2
    have HG2 := Lib.hid (hA.out.trans hgo2)
    clear hgo2 HB
    go_wp2_with fail
    go_ret
    exact ⟨⟨_, rfl⟩, HG2.out.set H.out hw9 _⟩
end Go.Proofs.Ytdhhdnopilfifaa
