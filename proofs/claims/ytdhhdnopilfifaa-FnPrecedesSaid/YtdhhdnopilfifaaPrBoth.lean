/-
  The builder: both. (Printed by wip/gen_both.py.)
-/
import Derived.Test.YtdhhdnopilfifaaPrOComp
namespace Go.Proofs.Ytdhhdnopilfifaa
open Go.RowKit

theorem keepA {X : Cx} {a w w' : World} (h : X.Go w w') (hi : X.Inv w) {n c g off : Nat} {l : List Nat} (hk : KidsOK w n (some ⟨g, off, none⟩) c l) {k0 : Nat} (h0 : l[0]? = some k0) {cs : Array Value} (hb : Blk w a.heap.size 26 cs) {u : Value} (hu : cs[3]? = some u) :
    X.Go w w' ∧ w'.cell? ⟨g, off, none⟩ = some (.int .i64 k0) ∧ w'.cell? ⟨a.heap.size, 3, none⟩ = some u :=
  ⟨h, h.cellK hi hk h0, ((h.blk hi hb (by decide)).cell 3).trans hu⟩
theorem keepZ {X : Cx} {w w' : World} (h : X.Go w w') (hi : X.Inv w) {n c g off : Nat} {l : List Nat} (hk : KidsOK w n (some ⟨g, off, none⟩) c l) {k0 : Nat} (h0 : l[0]? = some k0) :
    X.Go w w' ∧ w'.cell? ⟨g, off, none⟩ = some (.int .i64 k0) := ⟨h, h.cellK hi hk h0⟩
theorem keepL {X : Cx} {w w' : World} (h : X.Go w w') (hi : X.Inv w) {n c g off j : Nat} {l : List Nat} (hk : KidsOK w n (some ⟨g, off, none⟩) c l) {k0 : Nat} (h0 : l[j]? = some k0) :
    X.Go w w' ∧ w'.cell? ⟨g, off + j, none⟩ = some (.int .i64 k0) := ⟨h, h.cellK hi hk h0⟩
set_option maxRecDepth 100000 in
set_option maxHeartbeats 6400000 in
theorem both9 (X : Cx) (hok : X.OK) (op : Int) (tx : ByteArray) (fl sz : Int) (w : World) (h : X.Inv w) (m : Nat) (hN : NodeA X m) (A2 : Option Addr) (cq : Nat) (a : Nat) (hk : KidsOK w X.n A2 cq ([a])) (hm : ∀ k ∈ [a], m ≤ k) (ha : Ex X.es a) :
    Calls Try.prog 44 #[.pointer (some ⟨X.bB, 0, none⟩), .agg #[.int .i64 9, .int .i64 op, .string tx, .int .i64 fl, .int .i64 sz], .slice A2 1 cq] w (NdPost X ⟨9, op, tx, fl, sz⟩ w) := by
  obtain ⟨W1, hW1, hgo, hin, hbk⟩ := box_in X ⟨9, op, tx, fl, sz⟩ w h
  simp only at hW1 hbk
  have hk1 := hgo.kids h hk
  have H := Lib.hid hin
  have HK := Lib.hid hk1
  have HBk := Lib.hid hbk
  have HG := Lib.hid hgo
  have HOK := Lib.hid hok
  have HN := Lib.hid hN
  have HM := Lib.hid hm
  have HG0 := Lib.hid (hin.go (Below.refl _ _))
  have x0 := hbk.cell 0
  have x1 := hbk.cell 1
  have x2 := hbk.cell 2
  have x3 := hbk.cell 3
  have b0 := hin.2.2.2.1.cell 0
  simp only [Cx.cells, List.getElem?_toArray, List.getElem?_cons_zero, List.getElem?_cons_succ] at x0 x1 x2 x3 b0
  obtain ⟨xa, -, Ka⟩ := hN a (hm a (by simp)) ha
  have KKa := Lib.hid (fun (w' : World) (hg : X.Go W1 w') => Ka w' hg.2)
  obtain ⟨g, off, rfl, hgl, hc0, -⟩ := hk1.cell (j := 0) (k := a) rfl
  simp only [Nat.add_zero] at hc0
  have KC := Lib.hid (fun (w' : World) => count_any X w' (some ⟨g, off, none⟩) cq 1 1 1 (by decide) (by decide))
  clear Ka ha
  clear h hk hN hm hgo hin hk1 hbk hok
  go_enter Try.func44, Try.ntmps44
  go_wp2_with fail
  refine (KC.out _).mono ?_
  rintro e1 w1 ⟨rfl, hw1⟩
  have HG1 := Lib.hid (HG0.out.then hw1)
  have d0 := HG1.out.cellK H.out HK.out (j := 0) (k := a) rfl
  have hB1 := HG1.out.blk H.out HBk.out (by decide)
  have y2 := hB1.cell 2
  simp only [Nat.add_zero, List.getElem?_toArray, List.getElem?_cons_zero, List.getElem?_cons_succ] at d0 y2
  clear hw1 hB1
  go_wp2_with fail
  refine (KKa.out _ HG1.out).mono ?_
  rintro e2 w2 ⟨⟨g2, rfl, -⟩, hgo2⟩
  generalize tyOf xa.kind = t2 at *
  have HG2 := Lib.hid (HG1.out.trans hgo2)
  clear hgo2
  go_wp2_with fail
  go_ret
  exact ⟨⟨_, rfl, fun h => absurd (show (9 : Int) = 23 from h) (by decide)⟩, HG.out.trans (HG2.out.alloc _)⟩
set_option maxRecDepth 100000 in
set_option maxHeartbeats 6400000 in
theorem both10 (X : Cx) (hok : X.OK) (op : Int) (tx : ByteArray) (fl sz : Int) (w : World) (h : X.Inv w) (m : Nat) (hN : NodeA X m) (A2 : Option Addr) (cq : Nat) (a : Nat) (hk : KidsOK w X.n A2 cq ([a])) (hm : ∀ k ∈ [a], m ≤ k) (ha : Ex X.es a) :
    Calls Try.prog 44 #[.pointer (some ⟨X.bB, 0, none⟩), .agg #[.int .i64 10, .int .i64 op, .string tx, .int .i64 fl, .int .i64 sz], .slice A2 1 cq] w (NdPost X ⟨10, op, tx, fl, sz⟩ w) := by
  obtain ⟨W1, hW1, hgo, hin, hbk⟩ := box_in X ⟨10, op, tx, fl, sz⟩ w h
  simp only at hW1 hbk
  have hk1 := hgo.kids h hk
  have H := Lib.hid hin
  have HK := Lib.hid hk1
  have HBk := Lib.hid hbk
  have HG := Lib.hid hgo
  have HOK := Lib.hid hok
  have HN := Lib.hid hN
  have HM := Lib.hid hm
  have HG0 := Lib.hid (hin.go (Below.refl _ _))
  have x0 := hbk.cell 0
  have x1 := hbk.cell 1
  have x2 := hbk.cell 2
  have x3 := hbk.cell 3
  have b0 := hin.2.2.2.1.cell 0
  simp only [Cx.cells, List.getElem?_toArray, List.getElem?_cons_zero, List.getElem?_cons_succ] at x0 x1 x2 x3 b0
  obtain ⟨xa, -, Ka⟩ := hN a (hm a (by simp)) ha
  have KKa := Lib.hid (fun (w' : World) (hg : X.Go W1 w') => Ka w' hg.2)
  obtain ⟨g, off, rfl, hgl, hc0, -⟩ := hk1.cell (j := 0) (k := a) rfl
  simp only [Nat.add_zero] at hc0
  have KC := Lib.hid (fun (w' : World) => count_any X w' (some ⟨g, off, none⟩) cq 1 1 1 (by decide) (by decide))
  clear Ka ha
  clear h hk hN hm hgo hin hk1 hbk hok
  go_enter Try.func44, Try.ntmps44
  go_wp2_with fail
  refine (KC.out _).mono ?_
  rintro e1 w1 ⟨rfl, hw1⟩
  have HG1 := Lib.hid (HG0.out.then hw1)
  have d0 := HG1.out.cellK H.out HK.out (j := 0) (k := a) rfl
  have hB1 := HG1.out.blk H.out HBk.out (by decide)
  have y2 := hB1.cell 2
  simp only [Nat.add_zero, List.getElem?_toArray, List.getElem?_cons_zero, List.getElem?_cons_succ] at d0 y2
  clear hw1 hB1
  go_wp2_with fail
  refine (KKa.out _ HG1.out).mono ?_
  rintro e2 w2 ⟨⟨g2, rfl, -⟩, hgo2⟩
  generalize tyOf xa.kind = t2 at *
  have HG2 := Lib.hid (HG1.out.trans hgo2)
  clear hgo2
  go_wp2_with fail
  go_ret
  exact ⟨⟨_, rfl, fun h => absurd (show (10 : Int) = 23 from h) (by decide)⟩, HG.out.trans (HG2.out.alloc _)⟩
set_option maxRecDepth 100000 in
set_option maxHeartbeats 6400000 in
theorem both24 (X : Cx) (hok : X.OK) (op : Int) (tx : ByteArray) (fl sz : Int) (w : World) (h : X.Inv w) (m : Nat) (hN : NodeA X m) (A2 : Option Addr) (cq : Nat) (a : Nat) (hk : KidsOK w X.n A2 cq ([a])) (hm : ∀ k ∈ [a], m ≤ k) (ha : Ex X.es a) :
    Calls Try.prog 44 #[.pointer (some ⟨X.bB, 0, none⟩), .agg #[.int .i64 24, .int .i64 op, .string tx, .int .i64 fl, .int .i64 sz], .slice A2 1 cq] w (NdPost X ⟨24, op, tx, fl, sz⟩ w) := by
  obtain ⟨W1, hW1, hgo, hin, hbk⟩ := box_in X ⟨24, op, tx, fl, sz⟩ w h
  simp only at hW1 hbk
  have hk1 := hgo.kids h hk
  have H := Lib.hid hin
  have HK := Lib.hid hk1
  have HBk := Lib.hid hbk
  have HG := Lib.hid hgo
  have HOK := Lib.hid hok
  have HN := Lib.hid hN
  have HM := Lib.hid hm
  have HG0 := Lib.hid (hin.go (Below.refl _ _))
  have x0 := hbk.cell 0
  have x1 := hbk.cell 1
  have x2 := hbk.cell 2
  have x3 := hbk.cell 3
  have b0 := hin.2.2.2.1.cell 0
  simp only [Cx.cells, List.getElem?_toArray, List.getElem?_cons_zero, List.getElem?_cons_succ] at x0 x1 x2 x3 b0
  obtain ⟨xa, -, Ka⟩ := hN a (hm a (by simp)) ha
  have KKa := Lib.hid (fun (w' : World) (hg : X.Go W1 w') => Ka w' hg.2)
  obtain ⟨g, off, rfl, hgl, hc0, -⟩ := hk1.cell (j := 0) (k := a) rfl
  simp only [Nat.add_zero] at hc0
  have KC := Lib.hid (fun (w' : World) => count_any X w' (some ⟨g, off, none⟩) cq 1 1 1 (by decide) (by decide))
  clear Ka ha
  clear h hk hN hm hgo hin hk1 hbk hok
  go_enter Try.func44, Try.ntmps44
  go_wp2_with fail
  refine (KC.out _).mono ?_
  rintro e1 w1 ⟨rfl, hw1⟩
  have HG1 := Lib.hid (HG0.out.then hw1)
  have d0 := HG1.out.cellK H.out HK.out (j := 0) (k := a) rfl
  have hB1 := HG1.out.blk H.out HBk.out (by decide)
  have y2 := hB1.cell 2
  simp only [Nat.add_zero, List.getElem?_toArray, List.getElem?_cons_zero, List.getElem?_cons_succ] at d0 y2
  clear hw1 hB1
  go_wp2_with fail
  refine (KKa.out _ HG1.out).mono ?_
  rintro e2 w2 ⟨⟨g2, rfl, -⟩, hgo2⟩
  generalize tyOf xa.kind = t2 at *
  have HG2 := Lib.hid (HG1.out.trans hgo2)
  clear hgo2
  go_wp2_with fail
  go_ret
  exact ⟨⟨_, rfl, fun h => absurd (show (24 : Int) = 23 from h) (by decide)⟩, HG.out.trans (HG2.out.alloc _)⟩
set_option maxRecDepth 100000 in
set_option maxHeartbeats 6400000 in
theorem both22 (X : Cx) (hok : X.OK) (op : Int) (tx : ByteArray) (fl sz : Int) (w : World) (h : X.Inv w) (m : Nat) (hN : NodeA X m) (A2 : Option Addr) (cq : Nat) (a : Nat) (hk : KidsOK w X.n A2 cq ([a])) (hm : ∀ k ∈ [a], m ≤ k) (ha : Ex X.es a) (ho : 1 ≤ op ∧ op ≤ 4) :
    Calls Try.prog 44 #[.pointer (some ⟨X.bB, 0, none⟩), .agg #[.int .i64 22, .int .i64 op, .string tx, .int .i64 fl, .int .i64 sz], .slice A2 1 cq] w (NdPost X ⟨22, op, tx, fl, sz⟩ w) := by
  obtain ⟨W1, hW1, hgo, hin, hbk⟩ := box_in X ⟨22, op, tx, fl, sz⟩ w h
  simp only at hW1 hbk
  have hk1 := hgo.kids h hk
  have H := Lib.hid hin
  have HK := Lib.hid hk1
  have HBk := Lib.hid hbk
  have HG := Lib.hid hgo
  have HOK := Lib.hid hok
  have HN := Lib.hid hN
  have HM := Lib.hid hm
  have HG0 := Lib.hid (hin.go (Below.refl _ _))
  have x0 := hbk.cell 0
  have x1 := hbk.cell 1
  have x2 := hbk.cell 2
  have x3 := hbk.cell 3
  have b0 := hin.2.2.2.1.cell 0
  simp only [Cx.cells, List.getElem?_toArray, List.getElem?_cons_zero, List.getElem?_cons_succ] at x0 x1 x2 x3 b0
  obtain ⟨xa, -, Ka⟩ := hN a (hm a (by simp)) ha
  have KKa := Lib.hid (fun (w' : World) (hg : X.Go W1 w') => Ka w' hg.2)
  obtain ⟨g, off, rfl, hgl, hc0, -⟩ := hk1.cell (j := 0) (k := a) rfl
  simp only [Nat.add_zero] at hc0
  have KC := Lib.hid (fun (w' : World) => count_any X w' (some ⟨g, off, none⟩) cq 1 1 1 (by decide) (by decide))
  have KU := Lib.hid (fun (w' : World) => unaryOp_any op w' ho)
  clear ho
  clear Ka ha
  clear h hk hN hm hgo hin hk1 hbk hok
  go_enter Try.func44, Try.ntmps44
  go_wp2_with fail
  refine (KU.out _).mono ?_
  rintro e0 w0 ⟨⟨u, rfl⟩, hw0⟩
  have HG00 := Lib.hid (HG0.out.then hw0)
  clear hw0
  go_wp2_with fail
  refine (KC.out _).mono ?_
  rintro e1 w1 ⟨rfl, hw1⟩
  have HG1 := Lib.hid (HG00.out.then hw1)
  have d0 := HG1.out.cellK H.out HK.out (j := 0) (k := a) rfl
  have hB1 := HG1.out.blk H.out HBk.out (by decide)
  have y2 := hB1.cell 2
  simp only [Nat.add_zero, List.getElem?_toArray, List.getElem?_cons_zero, List.getElem?_cons_succ] at d0 y2
  clear hw1 hB1
  go_wp2_with fail
  refine (KKa.out _ HG1.out).mono ?_
  rintro e2 w2 ⟨⟨g2, rfl, -⟩, hgo2⟩
  generalize tyOf xa.kind = t2 at *
  have HG2 := Lib.hid (HG1.out.trans hgo2)
  clear hgo2
  go_wp2_with fail
  go_ret
  exact ⟨⟨_, rfl, fun h => absurd (show (22 : Int) = 23 from h) (by decide)⟩, HG.out.trans (HG2.out.alloc _)⟩
set_option maxRecDepth 100000 in
set_option maxHeartbeats 6400000 in
theorem both15 (X : Cx) (hok : X.OK) (op : Int) (tx : ByteArray) (fl sz : Int) (w : World) (h : X.Inv w) (m : Nat) (hN : NodeA X m) (A2 : Option Addr) (cq : Nat) (a b : Nat) (hk : KidsOK w X.n A2 cq ([a, b])) (hm : ∀ k ∈ [a, b], m ≤ k) (ha : Ex X.es a) (hb : Ex X.es b) :
    Calls Try.prog 44 #[.pointer (some ⟨X.bB, 0, none⟩), .agg #[.int .i64 15, .int .i64 op, .string tx, .int .i64 fl, .int .i64 sz], .slice A2 2 cq] w (NdPost X ⟨15, op, tx, fl, sz⟩ w) := by
  obtain ⟨W1, hW1, hgo, hin, hbk⟩ := box_in X ⟨15, op, tx, fl, sz⟩ w h
  simp only at hW1 hbk
  have hk1 := hgo.kids h hk
  have H := Lib.hid hin
  have HK := Lib.hid hk1
  have HBk := Lib.hid hbk
  have HG := Lib.hid hgo
  have HOK := Lib.hid hok
  have HN := Lib.hid hN
  have HM := Lib.hid hm
  have HG0 := Lib.hid (hin.go (Below.refl _ _))
  have x0 := hbk.cell 0
  have x1 := hbk.cell 1
  have x2 := hbk.cell 2
  have x3 := hbk.cell 3
  have b0 := hin.2.2.2.1.cell 0
  simp only [Cx.cells, List.getElem?_toArray, List.getElem?_cons_zero, List.getElem?_cons_succ] at x0 x1 x2 x3 b0
  obtain ⟨xa, -, Ka⟩ := hN a (hm a (by simp)) ha
  have KKa := Lib.hid (fun (w' : World) (hg : X.Go W1 w') => Ka w' hg.2)
  obtain ⟨xb, -, Kb⟩ := hN b (hm b (by simp)) hb
  have KKb := Lib.hid (fun (w' : World) (hg : X.Go W1 w') => Kb w' hg.2)
  obtain ⟨g, off, rfl, hgl, hc0, -⟩ := hk1.cell (j := 0) (k := a) rfl
  simp only [Nat.add_zero] at hc0
  have KC := Lib.hid (fun (w' : World) => count_any X w' (some ⟨g, off, none⟩) cq 2 2 2 (by decide) (by decide))
  clear Ka Kb ha hb
  clear h hk hN hm hgo hin hk1 hbk hok
  go_enter Try.func44, Try.ntmps44
  go_wp2_with fail
  refine (KC.out _).mono ?_
  rintro e1 w1 ⟨rfl, hw1⟩
  have HG1 := Lib.hid (HG0.out.then hw1)
  have d0 := HG1.out.cellK H.out HK.out (j := 0) (k := a) rfl
  have d1 := HG1.out.cellK H.out HK.out (j := 1) (k := b) rfl
  simp only [Nat.add_zero] at d0
  clear hw1
  go_wp2_with fail
  go_region_held3 (fun w' => X.Go W1 w' ∧ w'.cell? ⟨g, off, none⟩ = some (.int .i64 a) ∧ w'.cell? ⟨g, off + 1, none⟩ = some (.int .i64 b))
    ((refine keepK ?_ H.out HK.out rfl rfl; repeat (first | with_reducible exact hk9 | with_reducible exact hk8 | with_reducible exact HG1.out | with_reducible apply Cx.Go.drew | with_reducible apply Cx.Go.alloc)))
    (first
      | (go_at_call 22; rw [show (#[.pointer (some ⟨X.bB, 0, none⟩), .int .i64 (a : Int)] : Array Value) = #[.pointer (some ⟨X.bB, 0, none⟩), .int .i64 (a : Int)] from rfl]; refine (KKa.out _ (by first | exact HG1.out.drew | exact HG1.out)).mono ?_; rintro e8 w8 ⟨⟨g8, rfl, -⟩, h8⟩; have hk8 : X.Go W1 w8 := (by first | exact HG1.out.drew.trans h8 | exact HG1.out.trans h8))
      | (go_at_call 22; refine (KKb.out _ hk8).mono ?_; rintro e9 w9 ⟨⟨g9, rfl, -⟩, h9⟩; have hk9 : X.Go W1 w9 := hk8.trans h9))
  all_goals
    go_wp2_with fail
    go_ret
    exact ⟨⟨_, rfl, fun h => absurd (show (15 : Int) = 23 from h) (by decide)⟩, HG.out.trans (hk9.alloc _)⟩
set_option maxRecDepth 100000 in
set_option maxHeartbeats 6400000 in
theorem both23 (X : Cx) (hok : X.OK) (op : Int) (tx : ByteArray) (fl sz : Int) (w : World) (h : X.Inv w) (m : Nat) (hN : NodeA X m) (A2 : Option Addr) (cq : Nat) (a b : Nat) (hk : KidsOK w X.n A2 cq ([a, b])) (hm : ∀ k ∈ [a, b], m ≤ k) (ha : Ex X.es a) (hb : Ex X.es b) (ho : 1 ≤ op ∧ op ≤ 19) :
    Calls Try.prog 44 #[.pointer (some ⟨X.bB, 0, none⟩), .agg #[.int .i64 23, .int .i64 op, .string tx, .int .i64 fl, .int .i64 sz], .slice A2 2 cq] w (NdPost X ⟨23, op, tx, fl, sz⟩ w) := by
  obtain ⟨W1, hW1, hgo, hin, hbk⟩ := box_in X ⟨23, op, tx, fl, sz⟩ w h
  simp only at hW1 hbk
  have hk1 := hgo.kids h hk
  have H := Lib.hid hin
  have HK := Lib.hid hk1
  have HBk := Lib.hid hbk
  have HG := Lib.hid hgo
  have HOK := Lib.hid hok
  have HN := Lib.hid hN
  have HM := Lib.hid hm
  have HG0 := Lib.hid (hin.go (Below.refl _ _))
  have x0 := hbk.cell 0
  have x1 := hbk.cell 1
  have x2 := hbk.cell 2
  have x3 := hbk.cell 3
  have b0 := hin.2.2.2.1.cell 0
  simp only [Cx.cells, List.getElem?_toArray, List.getElem?_cons_zero, List.getElem?_cons_succ] at x0 x1 x2 x3 b0
  obtain ⟨xa, -, Ka⟩ := hN a (hm a (by simp)) ha
  have KKa := Lib.hid (fun (w' : World) (hg : X.Go W1 w') => Ka w' hg.2)
  obtain ⟨xb, -, Kb⟩ := hN b (hm b (by simp)) hb
  have KKb := Lib.hid (fun (w' : World) (hg : X.Go W1 w') => Kb w' hg.2)
  obtain ⟨g, off, rfl, hgl, hc0, -⟩ := hk1.cell (j := 0) (k := a) rfl
  simp only [Nat.add_zero] at hc0
  have KC := Lib.hid (fun (w' : World) => count_any X w' (some ⟨g, off, none⟩) cq 2 2 2 (by decide) (by decide))
  have KU := Lib.hid (fun (w' : World) => binaryOp_any op w' ho)
  clear ho
  clear Ka Kb ha hb
  clear h hk hN hm hgo hin hk1 hbk hok
  go_enter Try.func44, Try.ntmps44
  go_wp2_with fail
  refine (KU.out _).mono ?_
  rintro e0 w0 ⟨rfl, hw0⟩
  have HG00 := Lib.hid (HG0.out.then hw0)
  clear hw0
  go_wp2_with fail
  refine (KC.out _).mono ?_
  rintro e1 w1 ⟨rfl, hw1⟩
  have HG1 := Lib.hid (HG00.out.then hw1)
  have d0 := HG1.out.cellK H.out HK.out (j := 0) (k := a) rfl
  have d1 := HG1.out.cellK H.out HK.out (j := 1) (k := b) rfl
  simp only [Nat.add_zero] at d0
  clear hw1
  go_wp2_with fail
  go_region_held3 (fun w' => X.Go W1 w' ∧ w'.cell? ⟨g, off, none⟩ = some (.int .i64 a) ∧ w'.cell? ⟨g, off + 1, none⟩ = some (.int .i64 b))
    ((refine keepK ?_ H.out HK.out rfl rfl; repeat (first | with_reducible exact hk9 | with_reducible exact hk8 | with_reducible exact HG1.out | with_reducible apply Cx.Go.drew | with_reducible apply Cx.Go.alloc)))
    (first
      | (go_at_call 22; rw [show (#[.pointer (some ⟨X.bB, 0, none⟩), .int .i64 (a : Int)] : Array Value) = #[.pointer (some ⟨X.bB, 0, none⟩), .int .i64 (a : Int)] from rfl]; refine (KKa.out _ (by first | exact HG1.out.drew | exact HG1.out)).mono ?_; rintro e8 w8 ⟨⟨g8, rfl, -⟩, h8⟩; have hk8 : X.Go W1 w8 := (by first | exact HG1.out.drew.trans h8 | exact HG1.out.trans h8))
      | (go_at_call 22; refine (KKb.out _ hk8).mono ?_; rintro e9 w9 ⟨⟨g9, rfl, -⟩, h9⟩; have hk9 : X.Go W1 w9 := hk8.trans h9))
  all_goals
    go_wp2_with fail
    go_ret
    exact ⟨⟨_, rfl, fun _ => ⟨Nat.ne_of_lt hk9.2.lts.1, by rw [(Blk.new _ _ _).cell 12]; rfl⟩⟩, HG.out.trans (hk9.alloc _)⟩
set_option maxRecDepth 100000 in
set_option maxHeartbeats 6400000 in
theorem both11 (X : Cx) (hok : X.OK) (op : Int) (tx : ByteArray) (fl sz : Int) (w : World) (h : X.Inv w) (m : Nat) (hN : NodeA X m) (A2 : Option Addr) (cq : Nat) (l : List Nat) (hk : KidsOK w X.n A2 cq (l)) (hm : ∀ k ∈ l, m ≤ k) (ha : AllEx X.es l) :
    Calls Try.prog 44 #[.pointer (some ⟨X.bB, 0, none⟩), .agg #[.int .i64 11, .int .i64 op, .string tx, .int .i64 fl, .int .i64 sz], .slice A2 l.length cq] w (NdPost X ⟨11, op, tx, fl, sz⟩ w) := by
  obtain ⟨W1, hW1, hgo, hin, hbk⟩ := box_in X ⟨11, op, tx, fl, sz⟩ w h
  simp only at hW1 hbk
  have hk1 := hgo.kids h hk
  have H := Lib.hid hin
  have HK := Lib.hid hk1
  have HBk := Lib.hid hbk
  have HG := Lib.hid hgo
  have HOK := Lib.hid hok
  have HN := Lib.hid hN
  have HM := Lib.hid hm
  have HG0 := Lib.hid (hin.go (Below.refl _ _))
  have x0 := hbk.cell 0
  have x1 := hbk.cell 1
  have x2 := hbk.cell 2
  have x3 := hbk.cell 3
  have b0 := hin.2.2.2.1.cell 0
  simp only [Cx.cells, List.getElem?_toArray, List.getElem?_cons_zero, List.getElem?_cons_succ] at x0 x1 x2 x3 b0
  have KM := Lib.hid (many_any X W1 hin A2 cq l hk1 (fun k hk => hN k (hm k hk) (ha k hk)))
  clear ha
  clear h hk hN hm hgo hin hk1 hbk hok
  go_enter Try.func44, Try.ntmps44
  go_wp2_with fail
  refine KM.out.mono ?_
  rintro e1 w1 ⟨⟨A5, n5, c5, rfl⟩, hgo1⟩
  have HG1 := Lib.hid (HG0.out.trans hgo1)
  clear hgo1
  go_wp2_with fail
  go_ret
  exact ⟨⟨_, rfl, fun h => absurd (show (11 : Int) = 23 from h) (by decide)⟩, HG.out.trans (HG1.out.alloc _)⟩
set_option maxRecDepth 100000 in
set_option maxHeartbeats 6400000 in
theorem both19 (X : Cx) (hok : X.OK) (op : Int) (tx : ByteArray) (fl sz : Int) (w : World) (h : X.Inv w) (m : Nat) (hN : NodeA X m) (A2 : Option Addr) (cq : Nat) (r : List Nat) (a : Nat) (hk : KidsOK w X.n A2 cq (r ++ [a])) (hm : ∀ k ∈ r ++ [a], m ≤ k) (hr : ∀ k ∈ r, Kd X.es [33] k) (ha : Ex X.es a) (hl : r.length + 1 ≤ X.n) :
    Calls Try.prog 44 #[.pointer (some ⟨X.bB, 0, none⟩), .agg #[.int .i64 19, .int .i64 op, .string tx, .int .i64 fl, .int .i64 sz], .slice A2 (r.length + 1 : Nat) cq] w (NdPost X ⟨19, op, tx, fl, sz⟩ w) := by
  obtain ⟨W1, hW1, hgo, hin, hbk⟩ := box_in X ⟨19, op, tx, fl, sz⟩ w h
  simp only at hW1 hbk
  have hk1 := hgo.kids h hk
  have H := Lib.hid hin
  have HK := Lib.hid hk1
  have HBk := Lib.hid hbk
  have HG := Lib.hid hgo
  have HOK := Lib.hid hok
  have HN := Lib.hid hN
  have HM := Lib.hid hm
  have HG0 := Lib.hid (hin.go (Below.refl _ _))
  have x0 := hbk.cell 0
  have x1 := hbk.cell 1
  have x2 := hbk.cell 2
  have x3 := hbk.cell 3
  have b0 := hin.2.2.2.1.cell 0
  simp only [Cx.cells, List.getElem?_toArray, List.getElem?_cons_zero, List.getElem?_cons_succ] at x0 x1 x2 x3 b0
  have KC := Lib.hid (count_any X W1 A2 cq (r.length + 1) 1 X.n (by omega) (by omega))
  have KF := Lib.hid (fun (w' : World) (hg : X.Go W1 w') => function_any X hok w' hg.2 m hN A2 cq r a (hg.kids hin hk1) hr ha hm)
  clear hr ha hl
  clear h hk hN hm hgo hin hk1 hbk hok
  go_enter Try.func44, Try.ntmps44
  go_wp2_with fail
  refine KC.out.mono ?_
  rintro e1 w1 ⟨rfl, hw1⟩
  have HG1 := Lib.hid (HG0.out.then hw1)
  clear hw1
  go_wp2_with fail
  refine (KF.out _ HG1.out).mono ?_
  rintro e2 w2 ⟨⟨g5, t5, g6, rfl, -⟩, hgo2⟩
  have HG2 := Lib.hid (HG1.out.trans hgo2)
  clear hgo2
  go_wp2_with fail
  go_ret
  exact ⟨⟨_, rfl, fun h => absurd (show (19 : Int) = 23 from h) (by decide)⟩, HG.out.trans (HG2.out)⟩
set_option maxRecDepth 100000 in
set_option maxHeartbeats 6400000 in
theorem both21_2 (X : Cx) (hok : X.OK) (op : Int) (tx : ByteArray) (fl sz : Int) (w : World) (h : X.Inv w) (m : Nat) (hN : NodeA X m) (A2 : Option Addr) (cq : Nat) (a b : Nat) (hk : KidsOK w X.n A2 cq ([a, b])) (hm : ∀ k ∈ [a, b], m ≤ k) (ha : Ex X.es a) (hb : Ex X.es b) :
    Calls Try.prog 44 #[.pointer (some ⟨X.bB, 0, none⟩), .agg #[.int .i64 21, .int .i64 op, .string tx, .int .i64 fl, .int .i64 sz], .slice A2 2 cq] w (NdPost X ⟨21, op, tx, fl, sz⟩ w) := by
  obtain ⟨W1, hW1, hgo, hin, hbk⟩ := box_in X ⟨21, op, tx, fl, sz⟩ w h
  simp only at hW1 hbk
  have hk1 := hgo.kids h hk
  have H := Lib.hid hin
  have HK := Lib.hid hk1
  have HBk := Lib.hid hbk
  have HG := Lib.hid hgo
  have HOK := Lib.hid hok
  have HN := Lib.hid hN
  have HM := Lib.hid hm
  have HG0 := Lib.hid (hin.go (Below.refl _ _))
  have x0 := hbk.cell 0
  have x1 := hbk.cell 1
  have x2 := hbk.cell 2
  have x3 := hbk.cell 3
  have b0 := hin.2.2.2.1.cell 0
  simp only [Cx.cells, List.getElem?_toArray, List.getElem?_cons_zero, List.getElem?_cons_succ] at x0 x1 x2 x3 b0
  have KF := Lib.hid (conditional2 X W1 hin A2 cq a b hk1 (hN a (hm a (by simp)) ha) (hN b (hm b (by simp)) hb))
  clear ha hb
  clear h hk hN hm hgo hin hk1 hbk hok
  go_enter Try.func44, Try.ntmps44
  go_wp2_with fail
  refine KF.out.mono ?_
  rintro e2 w2 ⟨⟨g5, rfl⟩, hgo2⟩
  have HG2 := Lib.hid (HG0.out.trans hgo2)
  clear hgo2
  go_wp2_with fail
  go_ret
  exact ⟨⟨_, rfl, fun h => absurd (show (21 : Int) = 23 from h) (by decide)⟩, HG.out.trans (HG2.out)⟩
set_option maxRecDepth 100000 in
set_option maxHeartbeats 6400000 in
theorem both21_3 (X : Cx) (hok : X.OK) (op : Int) (tx : ByteArray) (fl sz : Int) (w : World) (h : X.Inv w) (m : Nat) (hN : NodeA X m) (A2 : Option Addr) (cq : Nat) (a b c : Nat) (hk : KidsOK w X.n A2 cq ([a, b, c])) (hm : ∀ k ∈ [a, b, c], m ≤ k) (ha : Ex X.es a) (hb : Ex X.es b) (hc : Ex X.es c) :
    Calls Try.prog 44 #[.pointer (some ⟨X.bB, 0, none⟩), .agg #[.int .i64 21, .int .i64 op, .string tx, .int .i64 fl, .int .i64 sz], .slice A2 3 cq] w (NdPost X ⟨21, op, tx, fl, sz⟩ w) := by
  obtain ⟨W1, hW1, hgo, hin, hbk⟩ := box_in X ⟨21, op, tx, fl, sz⟩ w h
  simp only at hW1 hbk
  have hk1 := hgo.kids h hk
  have H := Lib.hid hin
  have HK := Lib.hid hk1
  have HBk := Lib.hid hbk
  have HG := Lib.hid hgo
  have HOK := Lib.hid hok
  have HN := Lib.hid hN
  have HM := Lib.hid hm
  have HG0 := Lib.hid (hin.go (Below.refl _ _))
  have x0 := hbk.cell 0
  have x1 := hbk.cell 1
  have x2 := hbk.cell 2
  have x3 := hbk.cell 3
  have b0 := hin.2.2.2.1.cell 0
  simp only [Cx.cells, List.getElem?_toArray, List.getElem?_cons_zero, List.getElem?_cons_succ] at x0 x1 x2 x3 b0
  have KF := Lib.hid (conditional3 X W1 hin A2 cq a b c hk1 (hN a (hm a (by simp)) ha) (hN b (hm b (by simp)) hb) (hN c (hm c (by simp)) hc))
  clear ha hb hc
  clear h hk hN hm hgo hin hk1 hbk hok
  go_enter Try.func44, Try.ntmps44
  go_wp2_with fail
  refine KF.out.mono ?_
  rintro e2 w2 ⟨⟨g5, rfl⟩, hgo2⟩
  have HG2 := Lib.hid (HG0.out.trans hgo2)
  clear hgo2
  go_wp2_with fail
  go_ret
  exact ⟨⟨_, rfl, fun h => absurd (show (21 : Int) = 23 from h) (by decide)⟩, HG.out.trans (HG2.out)⟩
set_option maxRecDepth 100000 in
set_option maxHeartbeats 6400000 in
theorem both18A (X : Cx) (hok : X.OK) (op : Int) (tx : ByteArray) (fl sz : Int) (w : World) (h : X.Inv w) (m : Nat) (hN : NodeA X m) (A2 : Option Addr) (cq : Nat) (a : Nat) (hk : KidsOK w X.n A2 cq ([a])) (hm : ∀ k ∈ [a], m ≤ k) (ha : Ex X.es a) (hr : ArgsP X.es []) (hl : 1 ≤ X.n) (hq : cq = 1) :
    Calls Try.prog 44 #[.pointer (some ⟨X.bB, 0, none⟩), .agg #[.int .i64 18, .int .i64 op, .string tx, .int .i64 fl, .int .i64 sz], .slice A2 1 cq] w (NdPost X ⟨18, op, tx, fl, sz⟩ w) := by
  obtain ⟨W1, hW1, hgo, hin, hbk⟩ := box_in X ⟨18, op, tx, fl, sz⟩ w h
  simp only at hW1 hbk
  have hk1 := hgo.kids h hk
  have H := Lib.hid hin
  have HK := Lib.hid hk1
  have HBk := Lib.hid hbk
  have HG := Lib.hid hgo
  have HOK := Lib.hid hok
  have HN := Lib.hid hN
  have HM := Lib.hid hm
  have HG0 := Lib.hid (hin.go (Below.refl _ _))
  have x0 := hbk.cell 0
  have x1 := hbk.cell 1
  have x2 := hbk.cell 2
  have x3 := hbk.cell 3
  have b0 := hin.2.2.2.1.cell 0
  simp only [Cx.cells, List.getElem?_toArray, List.getElem?_cons_zero, List.getElem?_cons_succ] at x0 x1 x2 x3 b0
  subst hq
  obtain ⟨xa, -, Ka⟩ := hN a (hm a (by simp)) ha
  have KKa := Lib.hid (fun (w' : World) (hg : X.Go W1 w') => Ka w' hg.2)
  obtain ⟨g, off, rfl, hgl, hc0, -⟩ := hk1.cell (j := 0) (k := a) rfl
  simp only [Nat.add_zero] at hc0
  have KC := Lib.hid (count_any X W1 (some ⟨g, off, none⟩) 1 (1) 1 X.n (by omega) (by omega))
  have KF := Lib.hid (fun (w' : World) (hg : X.Go W1 w') => arguments_any X hok w' hg.2 m hN (some ⟨g, off, none⟩) 0 [] ⟨.inl rfl, (fun k hk => by cases hk), by simp, by simp⟩ hr (fun k hk => hm k (List.mem_cons_of_mem _ hk)))
  clear Ka ha hr hl
  clear h hk hN hm hgo hin hk1 hbk hok
  go_enter Try.func44, Try.ntmps44
  go_wp2_with fail
  refine KC.out.mono ?_
  rintro e1 w1 ⟨rfl, hw1⟩
  have HG1 := Lib.hid (HG0.out.then hw1)
  have d0 := HG1.out.cellK H.out HK.out (j := 0) (k := a) rfl
  have hB1 := HG1.out.blk H.out HBk.out (by decide)
  have y3 := hB1.cell 3
  simp only [Nat.add_zero, List.getElem?_toArray, List.getElem?_cons_zero, List.getElem?_cons_succ] at d0 y3
  clear hw1 hB1
  go_wp2_with fail
  go_region_held3 (fun w' => X.Go W1 w' ∧ w'.cell? ⟨g, off, none⟩ = some (.int .i64 a) ∧ w'.cell? ⟨w.heap.size, 3, none⟩ = some (.int .i64 fl))
    ((refine keepA ?_ H.out HK.out rfl HBk.out rfl; repeat (first | with_reducible exact hk9 | with_reducible exact hk8 | with_reducible exact HG1.out | with_reducible apply Cx.Go.drew | with_reducible apply Cx.Go.alloc)))
    (first
      | (go_at_call 22; refine (KKa.out _ (by first | exact HG1.out.drew | exact HG1.out)).mono ?_; rintro e8 w8 ⟨⟨g8, rfl, -⟩, h8⟩; have hk8 : X.Go W1 w8 := (by first | exact HG1.out.drew.trans h8 | exact HG1.out.trans h8))
      | (go_at_call 52; refine (KF.out _ hk8).mono ?_; rintro e9 w9 ⟨⟨A8, n8, c8, A9, n9, c9, rfl⟩, h9⟩; have hk9 : X.Go W1 w9 := hk8.trans h9))
  all_goals
    go_wp2_with fail
    go_ret
    exact ⟨⟨_, rfl, fun h => absurd (show (18 : Int) = 23 from h) (by decide)⟩, HG.out.trans (hk9.alloc _)⟩
set_option maxRecDepth 100000 in
set_option maxHeartbeats 6400000 in
theorem both18B (X : Cx) (hok : X.OK) (op : Int) (tx : ByteArray) (fl sz : Int) (w : World) (h : X.Inv w) (m : Nat) (hN : NodeA X m) (A2 : Option Addr) (cq : Nat) (a : Nat) (hk : KidsOK w X.n A2 cq ([a])) (hm : ∀ k ∈ [a], m ≤ k) (ha : Ex X.es a) (hr : ArgsP X.es []) (hl : 1 ≤ X.n) (hq : 2 ≤ cq) :
    Calls Try.prog 44 #[.pointer (some ⟨X.bB, 0, none⟩), .agg #[.int .i64 18, .int .i64 op, .string tx, .int .i64 fl, .int .i64 sz], .slice A2 1 cq] w (NdPost X ⟨18, op, tx, fl, sz⟩ w) := by
  obtain ⟨W1, hW1, hgo, hin, hbk⟩ := box_in X ⟨18, op, tx, fl, sz⟩ w h
  simp only at hW1 hbk
  have hk1 := hgo.kids h hk
  have H := Lib.hid hin
  have HK := Lib.hid hk1
  have HBk := Lib.hid hbk
  have HG := Lib.hid hgo
  have HOK := Lib.hid hok
  have HN := Lib.hid hN
  have HM := Lib.hid hm
  have HG0 := Lib.hid (hin.go (Below.refl _ _))
  have x0 := hbk.cell 0
  have x1 := hbk.cell 1
  have x2 := hbk.cell 2
  have x3 := hbk.cell 3
  have b0 := hin.2.2.2.1.cell 0
  simp only [Cx.cells, List.getElem?_toArray, List.getElem?_cons_zero, List.getElem?_cons_succ] at x0 x1 x2 x3 b0
  obtain ⟨xa, -, Ka⟩ := hN a (hm a (by simp)) ha
  have KKa := Lib.hid (fun (w' : World) (hg : X.Go W1 w') => Ka w' hg.2)
  obtain ⟨g, off, rfl, hgl, hc0, -⟩ := hk1.cell (j := 0) (k := a) rfl
  simp only [Nat.add_zero] at hc0
  have KC := Lib.hid (count_any X W1 (some ⟨g, off, none⟩) cq (1) 1 X.n (by omega) (by omega))
  have KF := Lib.hid (fun (w' : World) (hg : X.Go W1 w') => arguments_any X hok w' hg.2 m hN (some ⟨g, off + 1, none⟩) (cq - 1) [] (hg.kids hin hk1).tail hr (fun k hk => hm k (List.mem_cons_of_mem _ hk)))
  clear Ka ha hr hl
  clear h hk hN hm hgo hin hk1 hbk hok
  go_enter Try.func44, Try.ntmps44
  go_wp2_with fail
  refine KC.out.mono ?_
  rintro e1 w1 ⟨rfl, hw1⟩
  have HG1 := Lib.hid (HG0.out.then hw1)
  have d0 := HG1.out.cellK H.out HK.out (j := 0) (k := a) rfl
  have hB1 := HG1.out.blk H.out HBk.out (by decide)
  have y3 := hB1.cell 3
  simp only [Nat.add_zero, List.getElem?_toArray, List.getElem?_cons_zero, List.getElem?_cons_succ] at d0 y3
  clear hw1 hB1
  go_wp2_with fail
  go_region_held3 (fun w' => X.Go W1 w' ∧ w'.cell? ⟨g, off, none⟩ = some (.int .i64 a) ∧ w'.cell? ⟨w.heap.size, 3, none⟩ = some (.int .i64 fl))
    ((refine keepA ?_ H.out HK.out rfl HBk.out rfl; repeat (first | with_reducible exact hk9 | with_reducible exact hk8 | with_reducible exact HG1.out | with_reducible apply Cx.Go.drew | with_reducible apply Cx.Go.alloc)))
    (first
      | (go_at_call 22; refine (KKa.out _ (by first | exact HG1.out.drew | exact HG1.out)).mono ?_; rintro e8 w8 ⟨⟨g8, rfl, -⟩, h8⟩; have hk8 : X.Go W1 w8 := (by first | exact HG1.out.drew.trans h8 | exact HG1.out.trans h8))
      | (go_at_call 52; refine (KF.out _ hk8).mono ?_; rintro e9 w9 ⟨⟨A8, n8, c8, A9, n9, c9, rfl⟩, h9⟩; have hk9 : X.Go W1 w9 := hk8.trans h9))
  all_goals
    go_wp2_with fail
    go_ret
    exact ⟨⟨_, rfl, fun h => absurd (show (18 : Int) = 23 from h) (by decide)⟩, HG.out.trans (hk9.alloc _)⟩
set_option maxRecDepth 100000 in
set_option maxHeartbeats 6400000 in
theorem both18C (X : Cx) (hok : X.OK) (op : Int) (tx : ByteArray) (fl sz : Int) (w : World) (h : X.Inv w) (m : Nat) (hN : NodeA X m) (A2 : Option Addr) (cq : Nat) (a b : Nat) (r : List Nat) (hk : KidsOK w X.n A2 cq (a :: b :: r)) (hm : ∀ k ∈ a :: b :: r, m ≤ k) (ha : Ex X.es a) (hr : ArgsP X.es (b :: r)) (hl : r.length + 2 ≤ X.n)  :
    Calls Try.prog 44 #[.pointer (some ⟨X.bB, 0, none⟩), .agg #[.int .i64 18, .int .i64 op, .string tx, .int .i64 fl, .int .i64 sz], .slice A2 (r.length + 2 : Nat) cq] w (NdPost X ⟨18, op, tx, fl, sz⟩ w) := by
  obtain ⟨W1, hW1, hgo, hin, hbk⟩ := box_in X ⟨18, op, tx, fl, sz⟩ w h
  simp only at hW1 hbk
  have hk1 := hgo.kids h hk
  have H := Lib.hid hin
  have HK := Lib.hid hk1
  have HBk := Lib.hid hbk
  have HG := Lib.hid hgo
  have HOK := Lib.hid hok
  have HN := Lib.hid hN
  have HM := Lib.hid hm
  have HG0 := Lib.hid (hin.go (Below.refl _ _))
  have x0 := hbk.cell 0
  have x1 := hbk.cell 1
  have x2 := hbk.cell 2
  have x3 := hbk.cell 3
  have b0 := hin.2.2.2.1.cell 0
  simp only [Cx.cells, List.getElem?_toArray, List.getElem?_cons_zero, List.getElem?_cons_succ] at x0 x1 x2 x3 b0
  obtain ⟨xa, -, Ka⟩ := hN a (hm a (by simp)) ha
  have KKa := Lib.hid (fun (w' : World) (hg : X.Go W1 w') => Ka w' hg.2)
  obtain ⟨g, off, rfl, hgl, hc0, -⟩ := hk1.cell (j := 0) (k := a) rfl
  simp only [Nat.add_zero] at hc0
  have KC := Lib.hid (count_any X W1 (some ⟨g, off, none⟩) cq (r.length + 2) 1 X.n (by omega) (by omega))
  have KF := Lib.hid (fun (w' : World) (hg : X.Go W1 w') => arguments_any X hok w' hg.2 m hN (some ⟨g, off + 1, none⟩) (cq - 1) (b :: r) (hg.kids hin hk1).tail hr (fun k hk => hm k (List.mem_cons_of_mem _ hk)))
  have hcq : r.length + 2 ≤ cq := by have := hk1.2.2.2; simpa using this
  have hi0 : (0 : Int) < (r.length : Int) + 2 := by omega
  have hi1 : (1 : Int) ≤ (r.length : Int) + 2 := by omega
  have hi2 : (r.length : Int) + 2 ≤ (cq : Int) := by omega
  have hi3 : ¬ cq = 1 := by omega
  clear Ka ha hr hl
  clear h hk hN hm hgo hin hk1 hbk hok
  go_enter Try.func44, Try.ntmps44
  go_wp2_with fail
  refine KC.out.mono ?_
  rintro e1 w1 ⟨rfl, hw1⟩
  have HG1 := Lib.hid (HG0.out.then hw1)
  have d0 := HG1.out.cellK H.out HK.out (j := 0) (k := a) rfl
  have hB1 := HG1.out.blk H.out HBk.out (by decide)
  have y3 := hB1.cell 3
  simp only [Nat.add_zero, List.getElem?_toArray, List.getElem?_cons_zero, List.getElem?_cons_succ] at d0 y3
  clear hw1 hB1
  go_wp2_with fail
  go_region_held3 (fun w' => X.Go W1 w' ∧ w'.cell? ⟨g, off, none⟩ = some (.int .i64 a) ∧ w'.cell? ⟨w.heap.size, 3, none⟩ = some (.int .i64 fl))
    ((refine keepA ?_ H.out HK.out rfl HBk.out rfl; repeat (first | with_reducible exact hk9 | with_reducible exact hk8 | with_reducible exact HG1.out | with_reducible apply Cx.Go.drew | with_reducible apply Cx.Go.alloc)))
    (first
      | (go_at_call 22; refine (KKa.out _ (by first | exact HG1.out.drew | exact HG1.out)).mono ?_; rintro e8 w8 ⟨⟨g8, rfl, -⟩, h8⟩; have hk8 : X.Go W1 w8 := (by first | exact HG1.out.drew.trans h8 | exact HG1.out.trans h8))
      | (go_at_call 52; refine (KF.out _ hk8).mono ?_; rintro e9 w9 ⟨⟨A8, n8, c8, A9, n9, c9, rfl⟩, h9⟩; have hk9 : X.Go W1 w9 := hk8.trans h9))
  all_goals
    go_wp2_with fail
    go_ret
    exact ⟨⟨_, rfl, fun h => absurd (show (18 : Int) = 23 from h) (by decide)⟩, HG.out.trans (hk9.alloc _)⟩
theorem both18 (X : Cx) (hok : X.OK) (op : Int) (tx : ByteArray) (fl sz : Int) (w : World) (h : X.Inv w) (m : Nat) (hN : NodeA X m) (A2 : Option Addr) (cq : Nat) (a : Nat) (r : List Nat) (hk : KidsOK w X.n A2 cq (a :: r)) (hm : ∀ k ∈ a :: r, m ≤ k) (ha : Ex X.es a) (hr : ArgsP X.es r) (hl : (a :: r).length ≤ X.n) :
    Calls Try.prog 44 #[.pointer (some ⟨X.bB, 0, none⟩), .agg #[.int .i64 18, .int .i64 op, .string tx, .int .i64 fl, .int .i64 sz], .slice A2 (a :: r).length cq] w (NdPost X ⟨18, op, tx, fl, sz⟩ w) := by
  have hq := hk.2.2.2
  match r, hk, hm, hr, hl, hq with
  | [], hk, hm, hr, hl, hq =>
    by_cases h1 : cq = 1
    · exact both18A X hok op tx fl sz w h m hN A2 cq a hk hm ha hr hl h1
    · exact both18B X hok op tx fl sz w h m hN A2 cq a hk hm ha hr hl (by simp at hq; omega)
  | b :: r, hk, hm, hr, hl, hq => exact both18C X hok op tx fl sz w h m hN A2 cq a b r hk hm ha hr hl
set_option maxRecDepth 100000 in
set_option maxHeartbeats 6400000 in
theorem both20 (X : Cx) (hok : X.OK) (op : Int) (tx : ByteArray) (fl sz : Int) (w : World) (h : X.Inv w) (m : Nat) (hN : NodeA X m) (A2 : Option Addr) (cq : Nat) (r : List Nat) (a : Nat) (hk : KidsOK w X.n A2 cq (r ++ [a])) (hm : ∀ k ∈ r ++ [a], m ≤ k) (hr : ∀ k ∈ r, Kd X.es [32] k) (hne : r ≠ []) (ha : Ex X.es a) (hl : r.length + 1 ≤ X.n) :
    Calls Try.prog 44 #[.pointer (some ⟨X.bB, 0, none⟩), .agg #[.int .i64 20, .int .i64 op, .string tx, .int .i64 fl, .int .i64 sz], .slice A2 (r.length + 1 : Nat) cq] w (NdPost X ⟨20, op, tx, fl, sz⟩ w) := by
  obtain ⟨W1, hW1, hgo, hin, hbk⟩ := box_in X ⟨20, op, tx, fl, sz⟩ w h
  simp only at hW1 hbk
  have hk1 := hgo.kids h hk
  have H := Lib.hid hin
  have HK := Lib.hid hk1
  have HBk := Lib.hid hbk
  have HG := Lib.hid hgo
  have HOK := Lib.hid hok
  have HN := Lib.hid hN
  have HM := Lib.hid hm
  have HG0 := Lib.hid (hin.go (Below.refl _ _))
  have x0 := hbk.cell 0
  have x1 := hbk.cell 1
  have x2 := hbk.cell 2
  have x3 := hbk.cell 3
  have b0 := hin.2.2.2.1.cell 0
  simp only [Cx.cells, List.getElem?_toArray, List.getElem?_cons_zero, List.getElem?_cons_succ] at x0 x1 x2 x3 b0
  obtain ⟨xa, -, Ka⟩ := hN a (hm a (by simp)) ha
  have KKa := Lib.hid (fun (w' : World) (hg : X.Go W1 w') => Ka w' hg.2)
  obtain ⟨g, off, rfl, hgl, hc0, -⟩ := hk1.cell (j := r.length) (k := a) (by simp)
  have hrp : 1 ≤ r.length := List.length_pos_iff.2 hne
  have KC := Lib.hid (count_any X W1 (some ⟨g, off, none⟩) cq (r.length + 1) 2 X.n (by omega) (by omega))
  have KF := Lib.hid (fun (w' : World) (hg : X.Go W1 w') => binds_any X hok w' hg.2 m hN (some ⟨g, off, none⟩) cq r (hg.kids hin hk1).take hr (fun k hk => hm k (List.mem_append_left _ hk)))
  have hcq : r.length + 1 ≤ cq := by have := hk1.2.2.2; simpa using this
  have hll : r.length + 1 ≤ 1000000 := by have := hk1.2.2.1; simpa using this
  have wr1 : IntKind.i64.wrap ((r.length : Nat) : Int) = (r.length : Nat) := IntWalk.i64_in _ (by omega)
  have hi0 : (0 : Int) ≤ (r.length : Int) := by omega
  have hi1 : (r.length : Int) ≤ (cq : Int) := by omega
  have hi2 : (r.length : Int) < (r.length : Int) + 1 := by omega
  clear Ka ha hr hl hne
  clear h hk hN hm hgo hin hk1 hbk hok
  go_enter Try.func44, Try.ntmps44
  go_wp2_with fail
  refine KC.out.mono ?_
  rintro e1 w1 ⟨rfl, hw1⟩
  have HG1 := Lib.hid (HG0.out.then hw1)
  have d0 := HG1.out.cellK H.out HK.out (j := r.length) (k := a) (by simp)
  clear hw1
  go_wp2_with fail
  go_region_held3 (fun w' => X.Go W1 w' ∧ w'.cell? ⟨g, off + r.length, none⟩ = some (.int .i64 a))
    ((refine keepL ?_ H.out HK.out (by simp); repeat (first | with_reducible exact hk9 | with_reducible exact hk8 | with_reducible exact HG1.out | with_reducible apply Cx.Go.drew | with_reducible apply Cx.Go.alloc)))
    (first
      | (go_at_call 54; refine (KF.out _ (by first | exact HG1.out.drew | exact HG1.out)).mono ?_; rintro e8 w8 ⟨⟨A8, n8, c8, rfl⟩, h8⟩; have hk8 : X.Go W1 w8 := (by first | exact HG1.out.drew.trans h8 | exact HG1.out.trans h8))
      | (go_at_call 22; refine (KKa.out _ hk8).mono ?_; rintro e9 w9 ⟨⟨g9, rfl, -⟩, h9⟩; have hk9 : X.Go W1 w9 := hk8.trans h9))
  all_goals
    go_wp2_with fail
    go_ret
    exact ⟨⟨_, rfl, fun h => absurd (show (20 : Int) = 23 from h) (by decide)⟩, HG.out.trans (hk9.alloc _)⟩
set_option maxRecDepth 100000 in
theorem both_none (X : Cx) (e : ND) (w : World) (h : X.Inv w) (A2 : Option Addr) (n c : Nat) (hne : e.kind ≠ 9 ∧ e.kind ≠ 10 ∧ e.kind ≠ 11 ∧ e.kind ≠ 15 ∧ e.kind ≠ 18 ∧ e.kind ≠ 19 ∧ e.kind ≠ 20 ∧ e.kind ≠ 21 ∧ e.kind ≠ 22 ∧ e.kind ≠ 23 ∧ e.kind ≠ 24) :
    Calls Try.prog 44 #[.pointer (some ⟨X.bB, 0, none⟩), .agg #[.int .i64 e.kind, .int .i64 e.op, .string e.text, .int .i64 e.flag, .int .i64 e.size], .slice A2 n c] w (fun r w' => r = .returned .nilIface ∧ X.Go w w') := by
  have hgo := (h.go (Below.refl _ _)).alloc (.cells #[.int .i64 e.kind, .int .i64 e.op, .string e.text, .int .i64 e.flag, .int .i64 e.size] 26)
  have HG := Lib.hid hgo
  obtain ⟨n9, n10, n11, n15, n18, n19, n20, n21, n22, n23, n24⟩ := hne
  have q9 : (e.kind == 9) = false := by simpa using n9
  have q10 : (e.kind == 10) = false := by simpa using n10
  have q11 : (e.kind == 11) = false := by simpa using n11
  have q15 : (e.kind == 15) = false := by simpa using n15
  have q18 : (e.kind == 18) = false := by simpa using n18
  have q19 : (e.kind == 19) = false := by simpa using n19
  have q20 : (e.kind == 20) = false := by simpa using n20
  have q21 : (e.kind == 21) = false := by simpa using n21
  have q22 : (e.kind == 22) = false := by simpa using n22
  have q23 : (e.kind == 23) = false := by simpa using n23
  have q24 : (e.kind == 24) = false := by simpa using n24
  clear h hgo n9 n10 n11 n15 n18 n19 n20 n21 n22 n23 n24
  go_enter Try.func44, Try.ntmps44
  go_wp2_with fail
  go_ret
  exact ⟨rfl, HG.out⟩
end Go.Proofs.Ytdhhdnopilfifaa
