/-
  The builder: sugar. (Printed by wip/gen_sugar.py.)
-/
import Derived.Test.YtdhhdnopilfifaaPrBoth
import Derived.Test.YtdhhdnopilfifaaLater
namespace Go.Proofs.Ytdhhdnopilfifaa
open Go.RowKit

theorem maybe_none (X : Cx) (k : Nat) (w : World) (h : X.Inv w) (hk : Kd X.es [31] k) : Calls Try.prog 60 #[.pointer (some ⟨X.bB, 0, none⟩), .int .i64 k] w (fun e w' => e = .returned .nilIface ∧ X.Go w w') := by
  obtain ⟨x, hx, hm⟩ := hk
  have hk31 : x.kind = 31 := by simpa using hm
  obtain ⟨c0, hkn, b0⟩ := h.node hx
  rw [hk31] at c0
  have H := Lib.hid h
  clear h hx hm hk31
  go_enter Try.func60, Try.ntmps60
  go_wp2_with fail
  go_ret
  exact ⟨rfl, H.out.go (Below.refl _ _)⟩
theorem maybe_some (X : Cx) (k : Nat) (w : World) (h : X.Inv w) (hk : Ex X.es k) (hN : NodeC X k) : Calls Try.prog 60 #[.pointer (some ⟨X.bB, 0, none⟩), .int .i64 k] w (fun e w' => (∃ t g, e = .returned (.iface t (.pointer (some ⟨g, 0, none⟩)))) ∧ X.Go w w') := by
  obtain ⟨x, hx, hm1, hm2⟩ := hk
  obtain ⟨c0, hkn, b0⟩ := h.node hx
  obtain ⟨x2, hx2, K⟩ := hN
  have KK := Lib.hid (K w h)
  have q : (x.kind == 31) = false := by simp; omega
  clear hx hx2 K hm1 hm2 h
  generalize x.kind = kd at *
  go_enter Try.func60, Try.ntmps60
  go_wp2_with fail
  refine KK.out.mono ?_
  rintro e1 w1 ⟨⟨g, rfl, -⟩, hgo⟩
  have HG := Lib.hid hgo
  clear hgo
  generalize tyOf x2.kind = ty at *
  go_wp2_with fail
  go_ret
  exact ⟨⟨_, _, rfl⟩, HG.out⟩
theorem keep4K {X : Cx} {w w' : World} (h : X.Go w w') (hi : X.Inv w) {n c g off : Nat} {l : List Nat} (hk : KidsOK w n (some ⟨g, off, none⟩) c l) {k0 k1 k2 k3 : Nat} (h0 : l[0]? = some k0) (h1 : l[1]? = some k1) (h2 : l[2]? = some k2) (h3 : l[3]? = some k3) :
    X.Go w w' ∧ w'.cell? ⟨g, off, none⟩ = some (.int .i64 k0) ∧ w'.cell? ⟨g, off + 1, none⟩ = some (.int .i64 k1) ∧ w'.cell? ⟨g, off + 2, none⟩ = some (.int .i64 k2) ∧ w'.cell? ⟨g, off + 3, none⟩ = some (.int .i64 k3) :=
  ⟨h, h.cellK hi hk h0, h.cellK hi hk h1, h.cellK hi hk h2, h.cellK hi hk h3⟩
set_option maxRecDepth 100000 in
set_option maxHeartbeats 6400000 in
theorem sugar16 (X : Cx) (hok : X.OK) (op : Int) (tx : ByteArray) (fl sz : Int) (w : World) (h : X.Inv w) (m : Nat) (hN : NodeA X m) (A2 : Option Addr) (cq : Nat) (a : Nat) (hk : KidsOK w X.n A2 cq ([a])) (hm : ∀ k ∈ [a], m ≤ k) (ha : Ex X.es a) :
    Calls Try.prog 46 #[.pointer (some ⟨X.bB, 0, none⟩), .agg #[.int .i64 16, .int .i64 op, .string tx, .int .i64 fl, .int .i64 sz], .slice A2 1 cq] w (NdPost X ⟨16, op, tx, fl, sz⟩ w) := by
  obtain ⟨W1, hW1, hgo, hin, hbk⟩ := box_in X ⟨16, op, tx, fl, sz⟩ w h
  simp only at hW1 hbk
  have hk1 := hgo.kids h hk
  have H := Lib.hid hin
  have HK := Lib.hid hk1
  have HBk := Lib.hid hbk
  have HG := Lib.hid hgo
  have HOK := Lib.hid hok
  have HN := Lib.hid hN
  have HM := Lib.hid hm
  have HG0 := Lib.hid (hin.go (Below.refl _ _))
  have x0 := hbk.cell 0
  have x1 := hbk.cell 1
  have x2 := hbk.cell 2
  have x3 := hbk.cell 3
  have b0 := hin.2.2.2.1.cell 0
  simp only [Cx.cells, List.getElem?_toArray, List.getElem?_cons_zero, List.getElem?_cons_succ] at x0 x1 x2 x3 b0
  obtain ⟨xa, -, Ka⟩ := hN a (hm a (by simp)) ha
  have KKa := Lib.hid (fun (w' : World) (hg : X.Go W1 w') => Ka w' hg.2)
  obtain ⟨g, off, rfl, hgl, hc0, -⟩ := hk1.cell (j := 0) (k := a) rfl
  simp only [Nat.add_zero] at hc0
  have KC := Lib.hid (fun (w' : World) => count_any X w' (some ⟨g, off, none⟩) cq 1 1 1 (by decide) (by decide))
  clear Ka ha
  clear h hk hN hm hgo hin hk1 hbk hok
  go_enter Try.func46, Try.ntmps46
  go_wp2_with fail
  refine (KC.out _).mono ?_
  rintro e1 w1 ⟨rfl, hw1⟩
  have HG1 := Lib.hid (HG0.out.then hw1)
  have d0 := HG1.out.cellK H.out HK.out (j := 0) (k := a) rfl
  have hB1 := HG1.out.blk H.out HBk.out (by decide)
  have y2 := hB1.cell 2
  simp only [Nat.add_zero, List.getElem?_toArray, List.getElem?_cons_zero, List.getElem?_cons_succ] at d0 y2
  have HGI := Lib.hid (HG1.out.alloc (.cells #[.string tx] 112))
  have dI := HGI.out.cellK H.out HK.out (j := 0) (k := a) rfl
  simp only [Nat.add_zero] at dI
  clear hw1 hB1
  go_wp2_with fail
  refine (KKa.out _ HGI.out).mono ?_
  rintro e2 w2 ⟨⟨g2, rfl, -⟩, hgo2⟩
  generalize tyOf xa.kind = t2 at *
  have HG2 := Lib.hid (HGI.out.trans hgo2)
  clear hgo2
  go_wp2_with fail
  go_ret
  exact ⟨⟨_, rfl, fun h => absurd (show (16 : Int) = 23 from h) (by decide)⟩, HG.out.trans (HG2.out.alloc _)⟩
set_option maxRecDepth 100000 in
set_option maxHeartbeats 6400000 in
theorem sugar30 (X : Cx) (hok : X.OK) (op : Int) (tx : ByteArray) (fl sz : Int) (w : World) (h : X.Inv w) (m : Nat) (hN : NodeA X m) (A2 : Option Addr) (cq : Nat) (a : Nat) (hk : KidsOK w X.n A2 cq ([a])) (hm : ∀ k ∈ [a], m ≤ k) (ha : Ex X.es a) :
    Calls Try.prog 46 #[.pointer (some ⟨X.bB, 0, none⟩), .agg #[.int .i64 30, .int .i64 op, .string tx, .int .i64 fl, .int .i64 sz], .slice A2 1 cq] w (NdPost X ⟨30, op, tx, fl, sz⟩ w) := by
  obtain ⟨W1, hW1, hgo, hin, hbk⟩ := box_in X ⟨30, op, tx, fl, sz⟩ w h
  simp only at hW1 hbk
  have hk1 := hgo.kids h hk
  have H := Lib.hid hin
  have HK := Lib.hid hk1
  have HBk := Lib.hid hbk
  have HG := Lib.hid hgo
  have HOK := Lib.hid hok
  have HN := Lib.hid hN
  have HM := Lib.hid hm
  have HG0 := Lib.hid (hin.go (Below.refl _ _))
  have x0 := hbk.cell 0
  have x1 := hbk.cell 1
  have x2 := hbk.cell 2
  have x3 := hbk.cell 3
  have b0 := hin.2.2.2.1.cell 0
  simp only [Cx.cells, List.getElem?_toArray, List.getElem?_cons_zero, List.getElem?_cons_succ] at x0 x1 x2 x3 b0
  obtain ⟨xa, -, Ka⟩ := hN a (hm a (by simp)) ha
  have KKa := Lib.hid (fun (w' : World) (hg : X.Go W1 w') => Ka w' hg.2)
  obtain ⟨g, off, rfl, hgl, hc0, -⟩ := hk1.cell (j := 0) (k := a) rfl
  simp only [Nat.add_zero] at hc0
  have KC := Lib.hid (fun (w' : World) => count_any X w' (some ⟨g, off, none⟩) cq 1 1 1 (by decide) (by decide))
  clear Ka ha
  clear h hk hN hm hgo hin hk1 hbk hok
  go_enter Try.func46, Try.ntmps46
  go_wp2_with fail
  refine (KC.out _).mono ?_
  rintro e1 w1 ⟨rfl, hw1⟩
  have HG1 := Lib.hid (HG0.out.then hw1)
  have d0 := HG1.out.cellK H.out HK.out (j := 0) (k := a) rfl
  have hB1 := HG1.out.blk H.out HBk.out (by decide)
  have y2 := hB1.cell 2
  simp only [Nat.add_zero, List.getElem?_toArray, List.getElem?_cons_zero, List.getElem?_cons_succ] at d0 y2
  clear hw1 hB1
  go_wp2_with fail
  refine (KKa.out _ HG1.out).mono ?_
  rintro e2 w2 ⟨⟨g2, rfl, -⟩, hgo2⟩
  generalize tyOf xa.kind = t2 at *
  have HG2 := Lib.hid (HG1.out.trans hgo2)
  clear hgo2
  go_wp2_with fail
  go_ret
  exact ⟨⟨_, rfl, fun h => absurd (show (30 : Int) = 23 from h) (by decide)⟩, HG.out.trans (HG2.out.alloc _)⟩
set_option maxRecDepth 100000 in
set_option maxHeartbeats 6400000 in
theorem sugar29 (X : Cx) (hok : X.OK) (op : Int) (tx : ByteArray) (fl sz : Int) (w : World) (h : X.Inv w) (m : Nat) (hN : NodeA X m) (A2 : Option Addr) (cq : Nat) (a b : Nat) (hk : KidsOK w X.n A2 cq ([a, b])) (hm : ∀ k ∈ [a, b], m ≤ k) (ha : Ex X.es a) (hb13 : Kd X.es [13] b) :
    Calls Try.prog 46 #[.pointer (some ⟨X.bB, 0, none⟩), .agg #[.int .i64 29, .int .i64 op, .string tx, .int .i64 fl, .int .i64 sz], .slice A2 2 cq] w (NdPost X ⟨29, op, tx, fl, sz⟩ w) := by
  obtain ⟨W1, hW1, hgo, hin, hbk⟩ := box_in X ⟨29, op, tx, fl, sz⟩ w h
  simp only at hW1 hbk
  have hk1 := hgo.kids h hk
  have H := Lib.hid hin
  have HK := Lib.hid hk1
  have HBk := Lib.hid hbk
  have HG := Lib.hid hgo
  have HOK := Lib.hid hok
  have HN := Lib.hid hN
  have HM := Lib.hid hm
  have HG0 := Lib.hid (hin.go (Below.refl _ _))
  have x0 := hbk.cell 0
  have x1 := hbk.cell 1
  have x2 := hbk.cell 2
  have x3 := hbk.cell 3
  have b0 := hin.2.2.2.1.cell 0
  simp only [Cx.cells, List.getElem?_toArray, List.getElem?_cons_zero, List.getElem?_cons_succ] at x0 x1 x2 x3 b0
  have hb : Ex X.es b := by
    obtain ⟨x, hx, hmm⟩ := hb13
    have : x.kind = 13 := by simpa using hmm
    exact ⟨x, hx, by omega, by omega⟩
  obtain ⟨y, hy, hym⟩ := hb13
  have hy13 : y.kind = 13 := by simpa using hym
  obtain ⟨cb, hbn, -⟩ := hin.node hy
  rw [hy13] at cb
  obtain ⟨xa, -, Ka⟩ := hN a (hm a (by simp)) ha
  have KKa := Lib.hid (fun (w' : World) (hg : X.Go W1 w') => Ka w' hg.2)
  obtain ⟨xb, -, Kb⟩ := hN b (hm b (by simp)) hb
  have KKb := Lib.hid (fun (w' : World) (hg : X.Go W1 w') => Kb w' hg.2)
  obtain ⟨g, off, rfl, hgl, hc0, -⟩ := hk1.cell (j := 0) (k := a) rfl
  simp only [Nat.add_zero] at hc0
  obtain ⟨g', off', hA, -, hc1, -⟩ := hk1.cell (j := 1) (k := b) rfl
  cases hA
  have KC := Lib.hid (fun (w' : World) => count_any X w' (some ⟨g, off, none⟩) cq 2 2 2 (by decide) (by decide))
  clear Ka Kb ha hb hy hym hy13
  clear h hk hN hm hgo hin hk1 hbk hok
  go_enter Try.func46, Try.ntmps46
  go_upto_region 10 with fail
  have l0 := fun (y : Later W1) => Later.cell b0 y
  have l1 := fun (y : Later W1) => Later.cell hc1 y
  have l2 := fun (y : Later W1) => Later.cell cb y
  refine wp_region_later (by kernel_rfl) (by kernel_rfl) ?_
  repeat (go_big_quiet_step ((go_at_call 50; exact later_call (KC.out _))))
  refine wpQuiet_nil ?_
  rintro w1 ⟨y, rfl⟩
  have hw1 := y.ok
  have HG1 := Lib.hid (HG0.out.then hw1)
  generalize y.val = w1 at *
  have d0 := HG1.out.cellK H.out HK.out (j := 0) (k := a) rfl
  have d1 := HG1.out.cellK H.out HK.out (j := 1) (k := b) rfl
  simp only [Nat.add_zero] at d0
  clear hw1 l0 l1 l2
  go_wp2_with fail
  go_region_held3 (fun w' => X.Go W1 w' ∧ w'.cell? ⟨g, off, none⟩ = some (.int .i64 a) ∧ w'.cell? ⟨g, off + 1, none⟩ = some (.int .i64 b))
    ((refine keepK ?_ H.out HK.out rfl rfl; repeat (first | with_reducible exact hk9 | with_reducible exact hk8 | with_reducible exact HG1.out | with_reducible apply Cx.Go.drew | with_reducible apply Cx.Go.alloc)))
    (first
      | (go_at_call 22; rw [show (#[.pointer (some ⟨X.bB, 0, none⟩), .int .i64 (a : Int)] : Array Value) = #[.pointer (some ⟨X.bB, 0, none⟩), .int .i64 (a : Int)] from rfl]; refine (KKa.out _ (by first | exact HG1.out.drew | exact HG1.out)).mono ?_; rintro e8 w8 ⟨⟨g8, rfl, -⟩, h8⟩; have hk8 : X.Go W1 w8 := (by first | exact HG1.out.drew.trans h8 | exact HG1.out.trans h8))
      | (go_at_call 22; refine (KKb.out _ hk8).mono ?_; rintro e9 w9 ⟨⟨g9, rfl, -⟩, h9⟩; have hk9 : X.Go W1 w9 := hk8.trans h9))
  all_goals
    go_wp2_with fail
    go_ret
    exact ⟨⟨_, rfl, fun h => absurd (show (29 : Int) = 23 from h) (by decide)⟩, HG.out.trans (hk9.alloc _)⟩
set_option maxRecDepth 100000 in
set_option maxHeartbeats 6400000 in
theorem sugar25_2 (X : Cx) (hok : X.OK) (op : Int) (tx : ByteArray) (fl sz : Int) (w : World) (h : X.Inv w) (m : Nat) (hN : NodeA X m) (A2 : Option Addr) (cq : Nat) (a b : Nat) (hk : KidsOK w X.n A2 cq ([a, b])) (hm : ∀ k ∈ [a, b], m ≤ k) (ha : Ex X.es a) (hb : Ex X.es b) (hf : fl = 0) :
    Calls Try.prog 46 #[.pointer (some ⟨X.bB, 0, none⟩), .agg #[.int .i64 25, .int .i64 op, .string tx, .int .i64 fl, .int .i64 sz], .slice A2 2 cq] w (NdPost X ⟨25, op, tx, fl, sz⟩ w) := by
  obtain ⟨W1, hW1, hgo, hin, hbk⟩ := box_in X ⟨25, op, tx, fl, sz⟩ w h
  simp only at hW1 hbk
  have hk1 := hgo.kids h hk
  have H := Lib.hid hin
  have HK := Lib.hid hk1
  have HBk := Lib.hid hbk
  have HG := Lib.hid hgo
  have HOK := Lib.hid hok
  have HN := Lib.hid hN
  have HM := Lib.hid hm
  have HG0 := Lib.hid (hin.go (Below.refl _ _))
  have x0 := hbk.cell 0
  have x1 := hbk.cell 1
  have x2 := hbk.cell 2
  have x3 := hbk.cell 3
  have b0 := hin.2.2.2.1.cell 0
  simp only [Cx.cells, List.getElem?_toArray, List.getElem?_cons_zero, List.getElem?_cons_succ] at x0 x1 x2 x3 b0
  have x4 := hbk.cell 4
  simp only [List.getElem?_toArray, List.getElem?_cons_zero, List.getElem?_cons_succ] at x4
  have KF := Lib.hid (assert2 X ⟨25, op, tx, fl, sz⟩ W1 hin A2 cq a b hf hk1 (hN a (hm a (by simp)) ha) (hN b (hm b (by simp)) hb))
  clear hf ha hb
  clear h hk hN hm hgo hin hk1 hbk hok
  go_enter Try.func46, Try.ntmps46
  go_wp2_with fail
  refine KF.out.mono ?_
  rintro e2 w2 ⟨⟨g5, rfl⟩, hgo2⟩
  have HG2 := Lib.hid (HG0.out.trans hgo2)
  clear hgo2
  go_wp2_with fail
  go_ret
  exact ⟨⟨_, rfl, fun h => absurd (show (25 : Int) = 23 from h) (by decide)⟩, HG.out.trans (HG2.out)⟩
set_option maxRecDepth 100000 in
set_option maxHeartbeats 6400000 in
theorem sugar25_3 (X : Cx) (hok : X.OK) (op : Int) (tx : ByteArray) (fl sz : Int) (w : World) (h : X.Inv w) (m : Nat) (hN : NodeA X m) (A2 : Option Addr) (cq : Nat) (a b c : Nat) (hk : KidsOK w X.n A2 cq ([a, b, c])) (hm : ∀ k ∈ [a, b, c], m ≤ k) (ha : Ex X.es a) (hb : Ex X.es b) (hc : Ex X.es c) (hf : fl = 1) :
    Calls Try.prog 46 #[.pointer (some ⟨X.bB, 0, none⟩), .agg #[.int .i64 25, .int .i64 op, .string tx, .int .i64 fl, .int .i64 sz], .slice A2 3 cq] w (NdPost X ⟨25, op, tx, fl, sz⟩ w) := by
  obtain ⟨W1, hW1, hgo, hin, hbk⟩ := box_in X ⟨25, op, tx, fl, sz⟩ w h
  simp only at hW1 hbk
  have hk1 := hgo.kids h hk
  have H := Lib.hid hin
  have HK := Lib.hid hk1
  have HBk := Lib.hid hbk
  have HG := Lib.hid hgo
  have HOK := Lib.hid hok
  have HN := Lib.hid hN
  have HM := Lib.hid hm
  have HG0 := Lib.hid (hin.go (Below.refl _ _))
  have x0 := hbk.cell 0
  have x1 := hbk.cell 1
  have x2 := hbk.cell 2
  have x3 := hbk.cell 3
  have b0 := hin.2.2.2.1.cell 0
  simp only [Cx.cells, List.getElem?_toArray, List.getElem?_cons_zero, List.getElem?_cons_succ] at x0 x1 x2 x3 b0
  have x4 := hbk.cell 4
  simp only [List.getElem?_toArray, List.getElem?_cons_zero, List.getElem?_cons_succ] at x4
  have KF := Lib.hid (assert3 X ⟨25, op, tx, fl, sz⟩ W1 hin A2 cq a b c hf hk1 (hN a (hm a (by simp)) ha) (hN b (hm b (by simp)) hb) (hN c (hm c (by simp)) hc))
  clear hf ha hb hc
  clear h hk hN hm hgo hin hk1 hbk hok
  go_enter Try.func46, Try.ntmps46
  go_wp2_with fail
  refine KF.out.mono ?_
  rintro e2 w2 ⟨⟨g5, rfl⟩, hgo2⟩
  have HG2 := Lib.hid (HG0.out.trans hgo2)
  clear hgo2
  go_wp2_with fail
  go_ret
  exact ⟨⟨_, rfl, fun h => absurd (show (25 : Int) = 23 from h) (by decide)⟩, HG.out.trans (HG2.out)⟩
set_option maxRecDepth 100000 in
set_option maxHeartbeats 6400000 in
theorem sugar12C (X : Cx) (hok : X.OK) (op : Int) (tx : ByteArray) (fl sz : Int) (w : World) (h : X.Inv w) (m : Nat) (hN : NodeA X m) (A2 : Option Addr) (cq : Nat) (a b : Nat) (r : List Nat) (hk : KidsOK w X.n A2 cq (a :: b :: r)) (hm : ∀ k ∈ a :: b :: r, m ≤ k) (ha : Ex X.es a) (hr : SpecsP X.es (b :: r)) (hl : r.length + 2 ≤ X.n)  :
    Calls Try.prog 46 #[.pointer (some ⟨X.bB, 0, none⟩), .agg #[.int .i64 12, .int .i64 op, .string tx, .int .i64 fl, .int .i64 sz], .slice A2 (r.length + 2 : Nat) cq] w (NdPost X ⟨12, op, tx, fl, sz⟩ w) := by
  obtain ⟨W1, hW1, hgo, hin, hbk⟩ := box_in X ⟨12, op, tx, fl, sz⟩ w h
  simp only at hW1 hbk
  have hk1 := hgo.kids h hk
  have H := Lib.hid hin
  have HK := Lib.hid hk1
  have HBk := Lib.hid hbk
  have HG := Lib.hid hgo
  have HOK := Lib.hid hok
  have HN := Lib.hid hN
  have HM := Lib.hid hm
  have HG0 := Lib.hid (hin.go (Below.refl _ _))
  have x0 := hbk.cell 0
  have x1 := hbk.cell 1
  have x2 := hbk.cell 2
  have x3 := hbk.cell 3
  have b0 := hin.2.2.2.1.cell 0
  simp only [Cx.cells, List.getElem?_toArray, List.getElem?_cons_zero, List.getElem?_cons_succ] at x0 x1 x2 x3 b0
  obtain ⟨xa, -, Ka⟩ := hN a (hm a (by simp)) ha
  have KKa := Lib.hid (fun (w' : World) (hg : X.Go W1 w') => Ka w' hg.2)
  obtain ⟨g, off, rfl, hgl, hc0, -⟩ := hk1.cell (j := 0) (k := a) rfl
  simp only [Nat.add_zero] at hc0
  have KC := Lib.hid (count_any X W1 (some ⟨g, off, none⟩) cq (r.length + 2) 2 X.n (by omega) (by omega))
  have KF := Lib.hid (fun (w' : World) (hg : X.Go W1 w') => specs_any2 X hok w' hg.2 m hN (some ⟨g, off + 1, none⟩) (cq - 1) (b :: r) (hg.kids hin hk1).tail hr (fun k hk => hm k (List.mem_cons_of_mem _ hk)))
  have hcq : r.length + 2 ≤ cq := by have := hk1.2.2.2; simpa using this
  have hi0 : (0 : Int) < (r.length : Int) + 2 := by omega
  have hi1 : (1 : Int) ≤ (r.length : Int) + 2 := by omega
  have hi2 : (r.length : Int) + 2 ≤ (cq : Int) := by omega
  have hi3 : ¬ cq = 1 := by omega
  clear Ka ha hr hl
  clear h hk hN hm hgo hin hk1 hbk hok
  go_enter Try.func46, Try.ntmps46
  go_wp2_with fail
  refine KC.out.mono ?_
  rintro e1 w1 ⟨rfl, hw1⟩
  have HG1 := Lib.hid (HG0.out.then hw1)
  have d0 := HG1.out.cellK H.out HK.out (j := 0) (k := a) rfl
  have hB1 := HG1.out.blk H.out HBk.out (by decide)
  have y3 := hB1.cell 3
  simp only [Nat.add_zero, List.getElem?_toArray, List.getElem?_cons_zero, List.getElem?_cons_succ] at d0 y3
  clear hw1 hB1
  go_wp2_with fail
  go_region_held3 (fun w' => X.Go W1 w' ∧ w'.cell? ⟨g, off, none⟩ = some (.int .i64 a))
    ((refine keepZ ?_ H.out HK.out rfl; repeat (first | with_reducible exact hk9 | with_reducible exact hk8 | with_reducible exact HG1.out | with_reducible apply Cx.Go.drew | with_reducible apply Cx.Go.alloc)))
    (first
      | (go_at_call 22; refine (KKa.out _ (by first | exact HG1.out.drew | exact HG1.out)).mono ?_; rintro e8 w8 ⟨⟨g8, rfl, -⟩, h8⟩; have hk8 : X.Go W1 w8 := (by first | exact HG1.out.drew.trans h8 | exact HG1.out.trans h8))
      | (go_at_call 62; refine (KF.out _ hk8).mono ?_; rintro e9 w9 ⟨⟨A9, n9, c9, oo, ex, tx, rfl, -⟩, h9⟩; unfold fsCells; have hk9 : X.Go W1 w9 := hk8.trans h9))
  all_goals
    go_wp2_with fail
    go_ret
    exact ⟨⟨_, rfl, fun h => absurd (show (12 : Int) = 23 from h) (by decide)⟩, HG.out.trans (hk9.alloc _)⟩
theorem sugar12 (X : Cx) (hok : X.OK) (op : Int) (tx : ByteArray) (fl sz : Int) (w : World) (h : X.Inv w) (m : Nat) (hN : NodeA X m) (A2 : Option Addr) (cq : Nat) (a : Nat) (r : List Nat) (hk : KidsOK w X.n A2 cq (a :: r)) (hm : ∀ k ∈ a :: r, m ≤ k) (ha : Ex X.es a) (hr : SpecsP X.es r) (hl : (a :: r).length ≤ X.n) :
    Calls Try.prog 46 #[.pointer (some ⟨X.bB, 0, none⟩), .agg #[.int .i64 12, .int .i64 op, .string tx, .int .i64 fl, .int .i64 sz], .slice A2 (a :: r).length cq] w (NdPost X ⟨12, op, tx, fl, sz⟩ w) := by
  have hq := hk.2.2.2
  match r, hk, hm, hr, hl, hq with
  | [], hk, hm, hr, hl, hq =>
    obtain ⟨⟨a', r', h', -⟩, -⟩ := hr; cases h'
  | b :: r, hk, hm, hr, hl, hq => exact sugar12C X hok op tx fl sz w h m hN A2 cq a b r hk hm ha hr hl
set_option maxRecDepth 100000 in
set_option maxHeartbeats 6400000 in
theorem sugar13 (X : Cx) (hok : X.OK) (op : Int) (tx : ByteArray) (fl sz : Int) (w : World) (h : X.Inv w) (m : Nat) (hN : NodeA X m) (A2 : Option Addr) (cq : Nat) (l : List Nat) (hk : KidsOK w X.n A2 cq (l)) (hm : ∀ k ∈ l, m ≤ k) (hr : P13 X.es l) :
    Calls Try.prog 46 #[.pointer (some ⟨X.bB, 0, none⟩), .agg #[.int .i64 13, .int .i64 op, .string tx, .int .i64 fl, .int .i64 sz], .slice A2 l.length cq] w (NdPost X ⟨13, op, tx, fl, sz⟩ w) := by
  obtain ⟨W1, hW1, hgo, hin, hbk⟩ := box_in X ⟨13, op, tx, fl, sz⟩ w h
  simp only at hW1 hbk
  have hk1 := hgo.kids h hk
  have H := Lib.hid hin
  have HK := Lib.hid hk1
  have HBk := Lib.hid hbk
  have HG := Lib.hid hgo
  have HOK := Lib.hid hok
  have HN := Lib.hid hN
  have HM := Lib.hid hm
  have HG0 := Lib.hid (hin.go (Below.refl _ _))
  have x0 := hbk.cell 0
  have x1 := hbk.cell 1
  have x2 := hbk.cell 2
  have x3 := hbk.cell 3
  have b0 := hin.2.2.2.1.cell 0
  simp only [Cx.cells, List.getElem?_toArray, List.getElem?_cons_zero, List.getElem?_cons_succ] at x0 x1 x2 x3 b0
  have KM := Lib.hid (members_any X hok W1 hin m hN A2 cq l hk1 hr hm)
  clear hr
  clear h hk hN hm hgo hin hk1 hbk hok
  go_enter Try.func46, Try.ntmps46
  go_wp2_with fail
  refine KM.out.mono ?_
  rintro e1 w1 ⟨⟨A5, n5, c5, rfl⟩, hgo1⟩
  have HG1 := Lib.hid (HG0.out.trans hgo1)
  clear hgo1
  go_wp2_with fail
  go_ret
  exact ⟨⟨_, rfl, fun h => absurd (show (13 : Int) = 23 from h) (by decide)⟩, HG.out.trans (HG1.out.alloc _)⟩
set_option maxRecDepth 100000 in
set_option maxHeartbeats 6400000 in
theorem sugar14 (X : Cx) (hok : X.OK) (op : Int) (tx : ByteArray) (fl sz : Int) (w : World) (h : X.Inv w) (m : Nat) (hN : NodeA X m) (A2 : Option Addr) (cq : Nat) (l : List Nat) (hk : KidsOK w X.n A2 cq (l)) (hm : ∀ k ∈ l, m ≤ k) (hr : CompP X.es l) :
    Calls Try.prog 46 #[.pointer (some ⟨X.bB, 0, none⟩), .agg #[.int .i64 14, .int .i64 op, .string tx, .int .i64 fl, .int .i64 sz], .slice A2 l.length cq] w (NdPost X ⟨14, op, tx, fl, sz⟩ w) := by
  obtain ⟨W1, hW1, hgo, hin, hbk⟩ := box_in X ⟨14, op, tx, fl, sz⟩ w h
  simp only at hW1 hbk
  have hk1 := hgo.kids h hk
  have H := Lib.hid hin
  have HK := Lib.hid hk1
  have HBk := Lib.hid hbk
  have HG := Lib.hid hgo
  have HOK := Lib.hid hok
  have HN := Lib.hid hN
  have HM := Lib.hid hm
  have HG0 := Lib.hid (hin.go (Below.refl _ _))
  have x0 := hbk.cell 0
  have x1 := hbk.cell 1
  have x2 := hbk.cell 2
  have x3 := hbk.cell 3
  have b0 := hin.2.2.2.1.cell 0
  simp only [Cx.cells, List.getElem?_toArray, List.getElem?_cons_zero, List.getElem?_cons_succ] at x0 x1 x2 x3 b0
  have KM := Lib.hid (objectComp_any X hok W1 hin m hN A2 cq l hk1 hr hm)
  clear hr
  clear h hk hN hm hgo hin hk1 hbk hok
  go_enter Try.func46, Try.ntmps46
  go_wp2_with fail
  refine KM.out.mono ?_
  rintro e1 w1 ⟨⟨g5, rfl⟩, hgo1⟩
  have HG1 := Lib.hid (HG0.out.trans hgo1)
  clear hgo1
  go_wp2_with fail
  go_ret
  exact ⟨⟨_, rfl, fun h => absurd (show (14 : Int) = 23 from h) (by decide)⟩, HG.out.trans (HG1.out)⟩
set_option maxRecDepth 100000 in
set_option maxHeartbeats 6400000 in
theorem sugar17EEE (X : Cx) (hok : X.OK) (op : Int) (tx : ByteArray) (fl sz : Int) (w : World) (h : X.Inv w) (m : Nat) (hN : NodeA X m) (A2 : Option Addr) (cq : Nat) (a b c d : Nat) (hk : KidsOK w X.n A2 cq ([a, b, c, d])) (hm : ∀ k ∈ [a, b, c, d], m ≤ k) (ha : Ex X.es a) (hb : Ex X.es b) (hc : Ex X.es c) (hd : Ex X.es d) :
    Calls Try.prog 46 #[.pointer (some ⟨X.bB, 0, none⟩), .agg #[.int .i64 17, .int .i64 op, .string tx, .int .i64 fl, .int .i64 sz], .slice A2 4 cq] w (NdPost X ⟨17, op, tx, fl, sz⟩ w) := by
  obtain ⟨W1, hW1, hgo, hin, hbk⟩ := box_in X ⟨17, op, tx, fl, sz⟩ w h
  simp only at hW1 hbk
  have hk1 := hgo.kids h hk
  have H := Lib.hid hin
  have HK := Lib.hid hk1
  have HBk := Lib.hid hbk
  have HG := Lib.hid hgo
  have HOK := Lib.hid hok
  have HN := Lib.hid hN
  have HM := Lib.hid hm
  have HG0 := Lib.hid (hin.go (Below.refl _ _))
  have x0 := hbk.cell 0
  have x1 := hbk.cell 1
  have x2 := hbk.cell 2
  have x3 := hbk.cell 3
  have b0 := hin.2.2.2.1.cell 0
  simp only [Cx.cells, List.getElem?_toArray, List.getElem?_cons_zero, List.getElem?_cons_succ] at x0 x1 x2 x3 b0
  obtain ⟨xa, -, Ka⟩ := hN a (hm a (by simp)) ha
  have KKa := Lib.hid (fun (w' : World) (hg : X.Go W1 w') => Ka w' hg.2)
  obtain ⟨g, off, rfl, hgl, hc0, -⟩ := hk1.cell (j := 0) (k := a) rfl
  simp only [Nat.add_zero] at hc0
  have KKb := Lib.hid (fun (w' : World) (hg : X.Go W1 w') => maybe_some X b w' hg.2 hb (hN b (hm b (by simp)) hb))
  have KKc := Lib.hid (fun (w' : World) (hg : X.Go W1 w') => maybe_some X c w' hg.2 hc (hN c (hm c (by simp)) hc))
  have KKd := Lib.hid (fun (w' : World) (hg : X.Go W1 w') => maybe_some X d w' hg.2 hd (hN d (hm d (by simp)) hd))
  have KC := Lib.hid (fun (w' : World) => count_any X w' (some ⟨g, off, none⟩) cq 4 4 4 (by decide) (by decide))
  clear Ka ha hb hc hd
  clear h hk hN hm hgo hin hk1 hbk hok
  go_enter Try.func46, Try.ntmps46
  go_wp2_with fail
  refine (KC.out _).mono ?_
  rintro e1 w1 ⟨rfl, hw1⟩
  have HG1 := Lib.hid (HG0.out.then hw1)
  have d0 := HG1.out.cellK H.out HK.out (j := 0) (k := a) rfl
  have d1 := HG1.out.cellK H.out HK.out (j := 1) (k := b) rfl
  have d2 := HG1.out.cellK H.out HK.out (j := 2) (k := c) rfl
  have d3 := HG1.out.cellK H.out HK.out (j := 3) (k := d) rfl
  simp only [Nat.add_zero] at d0
  clear hw1
  go_wp2_with fail
  go_region_held3 (fun w' => X.Go W1 w' ∧ w'.cell? ⟨g, off, none⟩ = some (.int .i64 a) ∧ w'.cell? ⟨g, off + 1, none⟩ = some (.int .i64 b) ∧ w'.cell? ⟨g, off + 2, none⟩ = some (.int .i64 c) ∧ w'.cell? ⟨g, off + 3, none⟩ = some (.int .i64 d))
    ((refine keep4K ?_ H.out HK.out rfl rfl rfl rfl; repeat (first | with_reducible exact hk9 | with_reducible exact hk8 | with_reducible exact hk7 | with_reducible exact hk6 | with_reducible exact HG1.out | with_reducible apply Cx.Go.drew | with_reducible apply Cx.Go.alloc)))
    (first
      | (go_at_call 22; refine (KKa.out _ (by first | exact HG1.out.drew | exact HG1.out)).mono ?_; rintro e6 w6 ⟨⟨g6, rfl, -⟩, h6⟩; have hk6 : X.Go W1 w6 := (by first | exact HG1.out.drew.trans h6 | exact HG1.out.trans h6))
      | (go_at_call 60; rw [show (#[.pointer (some ⟨X.bB, 0, none⟩), .int .i64 (b : Int)] : Array Value) = #[.pointer (some ⟨X.bB, 0, none⟩), .int .i64 (b : Int)] from rfl]; refine (KKb.out _ hk6).mono ?_; rintro e7 w7 ⟨⟨t7, g7, rfl⟩, h7⟩; have hk7 : X.Go W1 w7 := hk6.trans h7)
      | (go_at_call 60; rw [show (#[.pointer (some ⟨X.bB, 0, none⟩), .int .i64 (c : Int)] : Array Value) = #[.pointer (some ⟨X.bB, 0, none⟩), .int .i64 (c : Int)] from rfl]; refine (KKc.out _ hk7).mono ?_; rintro e8 w8 ⟨⟨t8, g8, rfl⟩, h8⟩; have hk8 : X.Go W1 w8 := hk7.trans h8)
      | (go_at_call 60; rw [show (#[.pointer (some ⟨X.bB, 0, none⟩), .int .i64 (d : Int)] : Array Value) = #[.pointer (some ⟨X.bB, 0, none⟩), .int .i64 (d : Int)] from rfl]; refine (KKd.out _ hk8).mono ?_; rintro e9 w9 ⟨⟨t9, g9, rfl⟩, h9⟩; have hk9 : X.Go W1 w9 := hk8.trans h9))
  all_goals
    go_wp2_with fail
    go_ret
    exact ⟨⟨_, rfl, fun h => absurd (show (17 : Int) = 23 from h) (by decide)⟩, HG.out.trans (hk9.alloc _)⟩
set_option maxRecDepth 100000 in
set_option maxHeartbeats 6400000 in
theorem sugar17EEN (X : Cx) (hok : X.OK) (op : Int) (tx : ByteArray) (fl sz : Int) (w : World) (h : X.Inv w) (m : Nat) (hN : NodeA X m) (A2 : Option Addr) (cq : Nat) (a b c d : Nat) (hk : KidsOK w X.n A2 cq ([a, b, c, d])) (hm : ∀ k ∈ [a, b, c, d], m ≤ k) (ha : Ex X.es a) (hb : Ex X.es b) (hc : Ex X.es c) (hd : Kd X.es [31] d) :
    Calls Try.prog 46 #[.pointer (some ⟨X.bB, 0, none⟩), .agg #[.int .i64 17, .int .i64 op, .string tx, .int .i64 fl, .int .i64 sz], .slice A2 4 cq] w (NdPost X ⟨17, op, tx, fl, sz⟩ w) := by
  obtain ⟨W1, hW1, hgo, hin, hbk⟩ := box_in X ⟨17, op, tx, fl, sz⟩ w h
  simp only at hW1 hbk
  have hk1 := hgo.kids h hk
  have H := Lib.hid hin
  have HK := Lib.hid hk1
  have HBk := Lib.hid hbk
  have HG := Lib.hid hgo
  have HOK := Lib.hid hok
  have HN := Lib.hid hN
  have HM := Lib.hid hm
  have HG0 := Lib.hid (hin.go (Below.refl _ _))
  have x0 := hbk.cell 0
  have x1 := hbk.cell 1
  have x2 := hbk.cell 2
  have x3 := hbk.cell 3
  have b0 := hin.2.2.2.1.cell 0
  simp only [Cx.cells, List.getElem?_toArray, List.getElem?_cons_zero, List.getElem?_cons_succ] at x0 x1 x2 x3 b0
  obtain ⟨xa, -, Ka⟩ := hN a (hm a (by simp)) ha
  have KKa := Lib.hid (fun (w' : World) (hg : X.Go W1 w') => Ka w' hg.2)
  obtain ⟨g, off, rfl, hgl, hc0, -⟩ := hk1.cell (j := 0) (k := a) rfl
  simp only [Nat.add_zero] at hc0
  have KKb := Lib.hid (fun (w' : World) (hg : X.Go W1 w') => maybe_some X b w' hg.2 hb (hN b (hm b (by simp)) hb))
  have KKc := Lib.hid (fun (w' : World) (hg : X.Go W1 w') => maybe_some X c w' hg.2 hc (hN c (hm c (by simp)) hc))
  have KKd := Lib.hid (fun (w' : World) (hg : X.Go W1 w') => maybe_none X d w' hg.2 hd)
  have KC := Lib.hid (fun (w' : World) => count_any X w' (some ⟨g, off, none⟩) cq 4 4 4 (by decide) (by decide))
  clear Ka ha hb hc hd
  clear h hk hN hm hgo hin hk1 hbk hok
  go_enter Try.func46, Try.ntmps46
  go_wp2_with fail
  refine (KC.out _).mono ?_
  rintro e1 w1 ⟨rfl, hw1⟩
  have HG1 := Lib.hid (HG0.out.then hw1)
  have d0 := HG1.out.cellK H.out HK.out (j := 0) (k := a) rfl
  have d1 := HG1.out.cellK H.out HK.out (j := 1) (k := b) rfl
  have d2 := HG1.out.cellK H.out HK.out (j := 2) (k := c) rfl
  have d3 := HG1.out.cellK H.out HK.out (j := 3) (k := d) rfl
  simp only [Nat.add_zero] at d0
  clear hw1
  go_wp2_with fail
  go_region_held3 (fun w' => X.Go W1 w' ∧ w'.cell? ⟨g, off, none⟩ = some (.int .i64 a) ∧ w'.cell? ⟨g, off + 1, none⟩ = some (.int .i64 b) ∧ w'.cell? ⟨g, off + 2, none⟩ = some (.int .i64 c) ∧ w'.cell? ⟨g, off + 3, none⟩ = some (.int .i64 d))
    ((refine keep4K ?_ H.out HK.out rfl rfl rfl rfl; repeat (first | with_reducible exact hk9 | with_reducible exact hk8 | with_reducible exact hk7 | with_reducible exact hk6 | with_reducible exact HG1.out | with_reducible apply Cx.Go.drew | with_reducible apply Cx.Go.alloc)))
    (first
      | (go_at_call 22; refine (KKa.out _ (by first | exact HG1.out.drew | exact HG1.out)).mono ?_; rintro e6 w6 ⟨⟨g6, rfl, -⟩, h6⟩; have hk6 : X.Go W1 w6 := (by first | exact HG1.out.drew.trans h6 | exact HG1.out.trans h6))
      | (go_at_call 60; rw [show (#[.pointer (some ⟨X.bB, 0, none⟩), .int .i64 (b : Int)] : Array Value) = #[.pointer (some ⟨X.bB, 0, none⟩), .int .i64 (b : Int)] from rfl]; refine (KKb.out _ hk6).mono ?_; rintro e7 w7 ⟨⟨t7, g7, rfl⟩, h7⟩; have hk7 : X.Go W1 w7 := hk6.trans h7)
      | (go_at_call 60; rw [show (#[.pointer (some ⟨X.bB, 0, none⟩), .int .i64 (c : Int)] : Array Value) = #[.pointer (some ⟨X.bB, 0, none⟩), .int .i64 (c : Int)] from rfl]; refine (KKc.out _ hk7).mono ?_; rintro e8 w8 ⟨⟨t8, g8, rfl⟩, h8⟩; have hk8 : X.Go W1 w8 := hk7.trans h8)
      | (go_at_call 60; rw [show (#[.pointer (some ⟨X.bB, 0, none⟩), .int .i64 (d : Int)] : Array Value) = #[.pointer (some ⟨X.bB, 0, none⟩), .int .i64 (d : Int)] from rfl]; refine (KKd.out _ hk8).mono ?_; rintro e9 w9 ⟨rfl, h9⟩; have hk9 : X.Go W1 w9 := hk8.trans h9))
  all_goals
    go_wp2_with fail
    go_ret
    exact ⟨⟨_, rfl, fun h => absurd (show (17 : Int) = 23 from h) (by decide)⟩, HG.out.trans (hk9.alloc _)⟩
set_option maxRecDepth 100000 in
set_option maxHeartbeats 6400000 in
theorem sugar17ENE (X : Cx) (hok : X.OK) (op : Int) (tx : ByteArray) (fl sz : Int) (w : World) (h : X.Inv w) (m : Nat) (hN : NodeA X m) (A2 : Option Addr) (cq : Nat) (a b c d : Nat) (hk : KidsOK w X.n A2 cq ([a, b, c, d])) (hm : ∀ k ∈ [a, b, c, d], m ≤ k) (ha : Ex X.es a) (hb : Ex X.es b) (hc : Kd X.es [31] c) (hd : Ex X.es d) :
    Calls Try.prog 46 #[.pointer (some ⟨X.bB, 0, none⟩), .agg #[.int .i64 17, .int .i64 op, .string tx, .int .i64 fl, .int .i64 sz], .slice A2 4 cq] w (NdPost X ⟨17, op, tx, fl, sz⟩ w) := by
  obtain ⟨W1, hW1, hgo, hin, hbk⟩ := box_in X ⟨17, op, tx, fl, sz⟩ w h
  simp only at hW1 hbk
  have hk1 := hgo.kids h hk
  have H := Lib.hid hin
  have HK := Lib.hid hk1
  have HBk := Lib.hid hbk
  have HG := Lib.hid hgo
  have HOK := Lib.hid hok
  have HN := Lib.hid hN
  have HM := Lib.hid hm
  have HG0 := Lib.hid (hin.go (Below.refl _ _))
  have x0 := hbk.cell 0
  have x1 := hbk.cell 1
  have x2 := hbk.cell 2
  have x3 := hbk.cell 3
  have b0 := hin.2.2.2.1.cell 0
  simp only [Cx.cells, List.getElem?_toArray, List.getElem?_cons_zero, List.getElem?_cons_succ] at x0 x1 x2 x3 b0
  obtain ⟨xa, -, Ka⟩ := hN a (hm a (by simp)) ha
  have KKa := Lib.hid (fun (w' : World) (hg : X.Go W1 w') => Ka w' hg.2)
  obtain ⟨g, off, rfl, hgl, hc0, -⟩ := hk1.cell (j := 0) (k := a) rfl
  simp only [Nat.add_zero] at hc0
  have KKb := Lib.hid (fun (w' : World) (hg : X.Go W1 w') => maybe_some X b w' hg.2 hb (hN b (hm b (by simp)) hb))
  have KKc := Lib.hid (fun (w' : World) (hg : X.Go W1 w') => maybe_none X c w' hg.2 hc)
  have KKd := Lib.hid (fun (w' : World) (hg : X.Go W1 w') => maybe_some X d w' hg.2 hd (hN d (hm d (by simp)) hd))
  have KC := Lib.hid (fun (w' : World) => count_any X w' (some ⟨g, off, none⟩) cq 4 4 4 (by decide) (by decide))
  clear Ka ha hb hc hd
  clear h hk hN hm hgo hin hk1 hbk hok
  go_enter Try.func46, Try.ntmps46
  go_wp2_with fail
  refine (KC.out _).mono ?_
  rintro e1 w1 ⟨rfl, hw1⟩
  have HG1 := Lib.hid (HG0.out.then hw1)
  have d0 := HG1.out.cellK H.out HK.out (j := 0) (k := a) rfl
  have d1 := HG1.out.cellK H.out HK.out (j := 1) (k := b) rfl
  have d2 := HG1.out.cellK H.out HK.out (j := 2) (k := c) rfl
  have d3 := HG1.out.cellK H.out HK.out (j := 3) (k := d) rfl
  simp only [Nat.add_zero] at d0
  clear hw1
  go_wp2_with fail
  go_region_held3 (fun w' => X.Go W1 w' ∧ w'.cell? ⟨g, off, none⟩ = some (.int .i64 a) ∧ w'.cell? ⟨g, off + 1, none⟩ = some (.int .i64 b) ∧ w'.cell? ⟨g, off + 2, none⟩ = some (.int .i64 c) ∧ w'.cell? ⟨g, off + 3, none⟩ = some (.int .i64 d))
    ((refine keep4K ?_ H.out HK.out rfl rfl rfl rfl; repeat (first | with_reducible exact hk9 | with_reducible exact hk8 | with_reducible exact hk7 | with_reducible exact hk6 | with_reducible exact HG1.out | with_reducible apply Cx.Go.drew | with_reducible apply Cx.Go.alloc)))
    (first
      | (go_at_call 22; refine (KKa.out _ (by first | exact HG1.out.drew | exact HG1.out)).mono ?_; rintro e6 w6 ⟨⟨g6, rfl, -⟩, h6⟩; have hk6 : X.Go W1 w6 := (by first | exact HG1.out.drew.trans h6 | exact HG1.out.trans h6))
      | (go_at_call 60; rw [show (#[.pointer (some ⟨X.bB, 0, none⟩), .int .i64 (b : Int)] : Array Value) = #[.pointer (some ⟨X.bB, 0, none⟩), .int .i64 (b : Int)] from rfl]; refine (KKb.out _ hk6).mono ?_; rintro e7 w7 ⟨⟨t7, g7, rfl⟩, h7⟩; have hk7 : X.Go W1 w7 := hk6.trans h7)
      | (go_at_call 60; rw [show (#[.pointer (some ⟨X.bB, 0, none⟩), .int .i64 (c : Int)] : Array Value) = #[.pointer (some ⟨X.bB, 0, none⟩), .int .i64 (c : Int)] from rfl]; refine (KKc.out _ hk7).mono ?_; rintro e8 w8 ⟨rfl, h8⟩; have hk8 : X.Go W1 w8 := hk7.trans h8)
      | (go_at_call 60; rw [show (#[.pointer (some ⟨X.bB, 0, none⟩), .int .i64 (d : Int)] : Array Value) = #[.pointer (some ⟨X.bB, 0, none⟩), .int .i64 (d : Int)] from rfl]; refine (KKd.out _ hk8).mono ?_; rintro e9 w9 ⟨⟨t9, g9, rfl⟩, h9⟩; have hk9 : X.Go W1 w9 := hk8.trans h9))
  all_goals
    go_wp2_with fail
    go_ret
    exact ⟨⟨_, rfl, fun h => absurd (show (17 : Int) = 23 from h) (by decide)⟩, HG.out.trans (hk9.alloc _)⟩
set_option maxRecDepth 100000 in
set_option maxHeartbeats 6400000 in
theorem sugar17ENN (X : Cx) (hok : X.OK) (op : Int) (tx : ByteArray) (fl sz : Int) (w : World) (h : X.Inv w) (m : Nat) (hN : NodeA X m) (A2 : Option Addr) (cq : Nat) (a b c d : Nat) (hk : KidsOK w X.n A2 cq ([a, b, c, d])) (hm : ∀ k ∈ [a, b, c, d], m ≤ k) (ha : Ex X.es a) (hb : Ex X.es b) (hc : Kd X.es [31] c) (hd : Kd X.es [31] d) :
    Calls Try.prog 46 #[.pointer (some ⟨X.bB, 0, none⟩), .agg #[.int .i64 17, .int .i64 op, .string tx, .int .i64 fl, .int .i64 sz], .slice A2 4 cq] w (NdPost X ⟨17, op, tx, fl, sz⟩ w) := by
  obtain ⟨W1, hW1, hgo, hin, hbk⟩ := box_in X ⟨17, op, tx, fl, sz⟩ w h
  simp only at hW1 hbk
  have hk1 := hgo.kids h hk
  have H := Lib.hid hin
  have HK := Lib.hid hk1
  have HBk := Lib.hid hbk
  have HG := Lib.hid hgo
  have HOK := Lib.hid hok
  have HN := Lib.hid hN
  have HM := Lib.hid hm
  have HG0 := Lib.hid (hin.go (Below.refl _ _))
  have x0 := hbk.cell 0
  have x1 := hbk.cell 1
  have x2 := hbk.cell 2
  have x3 := hbk.cell 3
  have b0 := hin.2.2.2.1.cell 0
  simp only [Cx.cells, List.getElem?_toArray, List.getElem?_cons_zero, List.getElem?_cons_succ] at x0 x1 x2 x3 b0
  obtain ⟨xa, -, Ka⟩ := hN a (hm a (by simp)) ha
  have KKa := Lib.hid (fun (w' : World) (hg : X.Go W1 w') => Ka w' hg.2)
  obtain ⟨g, off, rfl, hgl, hc0, -⟩ := hk1.cell (j := 0) (k := a) rfl
  simp only [Nat.add_zero] at hc0
  have KKb := Lib.hid (fun (w' : World) (hg : X.Go W1 w') => maybe_some X b w' hg.2 hb (hN b (hm b (by simp)) hb))
  have KKc := Lib.hid (fun (w' : World) (hg : X.Go W1 w') => maybe_none X c w' hg.2 hc)
  have KKd := Lib.hid (fun (w' : World) (hg : X.Go W1 w') => maybe_none X d w' hg.2 hd)
  have KC := Lib.hid (fun (w' : World) => count_any X w' (some ⟨g, off, none⟩) cq 4 4 4 (by decide) (by decide))
  clear Ka ha hb hc hd
  clear h hk hN hm hgo hin hk1 hbk hok
  go_enter Try.func46, Try.ntmps46
  go_wp2_with fail
  refine (KC.out _).mono ?_
  rintro e1 w1 ⟨rfl, hw1⟩
  have HG1 := Lib.hid (HG0.out.then hw1)
  have d0 := HG1.out.cellK H.out HK.out (j := 0) (k := a) rfl
  have d1 := HG1.out.cellK H.out HK.out (j := 1) (k := b) rfl
  have d2 := HG1.out.cellK H.out HK.out (j := 2) (k := c) rfl
  have d3 := HG1.out.cellK H.out HK.out (j := 3) (k := d) rfl
  simp only [Nat.add_zero] at d0
  clear hw1
  go_wp2_with fail
  go_region_held3 (fun w' => X.Go W1 w' ∧ w'.cell? ⟨g, off, none⟩ = some (.int .i64 a) ∧ w'.cell? ⟨g, off + 1, none⟩ = some (.int .i64 b) ∧ w'.cell? ⟨g, off + 2, none⟩ = some (.int .i64 c) ∧ w'.cell? ⟨g, off + 3, none⟩ = some (.int .i64 d))
    ((refine keep4K ?_ H.out HK.out rfl rfl rfl rfl; repeat (first | with_reducible exact hk9 | with_reducible exact hk8 | with_reducible exact hk7 | with_reducible exact hk6 | with_reducible exact HG1.out | with_reducible apply Cx.Go.drew | with_reducible apply Cx.Go.alloc)))
    (first
      | (go_at_call 22; refine (KKa.out _ (by first | exact HG1.out.drew | exact HG1.out)).mono ?_; rintro e6 w6 ⟨⟨g6, rfl, -⟩, h6⟩; have hk6 : X.Go W1 w6 := (by first | exact HG1.out.drew.trans h6 | exact HG1.out.trans h6))
      | (go_at_call 60; rw [show (#[.pointer (some ⟨X.bB, 0, none⟩), .int .i64 (b : Int)] : Array Value) = #[.pointer (some ⟨X.bB, 0, none⟩), .int .i64 (b : Int)] from rfl]; refine (KKb.out _ hk6).mono ?_; rintro e7 w7 ⟨⟨t7, g7, rfl⟩, h7⟩; have hk7 : X.Go W1 w7 := hk6.trans h7)
      | (go_at_call 60; rw [show (#[.pointer (some ⟨X.bB, 0, none⟩), .int .i64 (c : Int)] : Array Value) = #[.pointer (some ⟨X.bB, 0, none⟩), .int .i64 (c : Int)] from rfl]; refine (KKc.out _ hk7).mono ?_; rintro e8 w8 ⟨rfl, h8⟩; have hk8 : X.Go W1 w8 := hk7.trans h8)
      | (go_at_call 60; rw [show (#[.pointer (some ⟨X.bB, 0, none⟩), .int .i64 (d : Int)] : Array Value) = #[.pointer (some ⟨X.bB, 0, none⟩), .int .i64 (d : Int)] from rfl]; refine (KKd.out _ hk8).mono ?_; rintro e9 w9 ⟨rfl, h9⟩; have hk9 : X.Go W1 w9 := hk8.trans h9))
  all_goals
    go_wp2_with fail
    go_ret
    exact ⟨⟨_, rfl, fun h => absurd (show (17 : Int) = 23 from h) (by decide)⟩, HG.out.trans (hk9.alloc _)⟩
set_option maxRecDepth 100000 in
set_option maxHeartbeats 6400000 in
theorem sugar17NEE (X : Cx) (hok : X.OK) (op : Int) (tx : ByteArray) (fl sz : Int) (w : World) (h : X.Inv w) (m : Nat) (hN : NodeA X m) (A2 : Option Addr) (cq : Nat) (a b c d : Nat) (hk : KidsOK w X.n A2 cq ([a, b, c, d])) (hm : ∀ k ∈ [a, b, c, d], m ≤ k) (ha : Ex X.es a) (hb : Kd X.es [31] b) (hc : Ex X.es c) (hd : Ex X.es d) :
    Calls Try.prog 46 #[.pointer (some ⟨X.bB, 0, none⟩), .agg #[.int .i64 17, .int .i64 op, .string tx, .int .i64 fl, .int .i64 sz], .slice A2 4 cq] w (NdPost X ⟨17, op, tx, fl, sz⟩ w) := by
  obtain ⟨W1, hW1, hgo, hin, hbk⟩ := box_in X ⟨17, op, tx, fl, sz⟩ w h
  simp only at hW1 hbk
  have hk1 := hgo.kids h hk
  have H := Lib.hid hin
  have HK := Lib.hid hk1
  have HBk := Lib.hid hbk
  have HG := Lib.hid hgo
  have HOK := Lib.hid hok
  have HN := Lib.hid hN
  have HM := Lib.hid hm
  have HG0 := Lib.hid (hin.go (Below.refl _ _))
  have x0 := hbk.cell 0
  have x1 := hbk.cell 1
  have x2 := hbk.cell 2
  have x3 := hbk.cell 3
  have b0 := hin.2.2.2.1.cell 0
  simp only [Cx.cells, List.getElem?_toArray, List.getElem?_cons_zero, List.getElem?_cons_succ] at x0 x1 x2 x3 b0
  obtain ⟨xa, -, Ka⟩ := hN a (hm a (by simp)) ha
  have KKa := Lib.hid (fun (w' : World) (hg : X.Go W1 w') => Ka w' hg.2)
  obtain ⟨g, off, rfl, hgl, hc0, -⟩ := hk1.cell (j := 0) (k := a) rfl
  simp only [Nat.add_zero] at hc0
  have KKb := Lib.hid (fun (w' : World) (hg : X.Go W1 w') => maybe_none X b w' hg.2 hb)
  have KKc := Lib.hid (fun (w' : World) (hg : X.Go W1 w') => maybe_some X c w' hg.2 hc (hN c (hm c (by simp)) hc))
  have KKd := Lib.hid (fun (w' : World) (hg : X.Go W1 w') => maybe_some X d w' hg.2 hd (hN d (hm d (by simp)) hd))
  have KC := Lib.hid (fun (w' : World) => count_any X w' (some ⟨g, off, none⟩) cq 4 4 4 (by decide) (by decide))
  clear Ka ha hb hc hd
  clear h hk hN hm hgo hin hk1 hbk hok
  go_enter Try.func46, Try.ntmps46
  go_wp2_with fail
  refine (KC.out _).mono ?_
  rintro e1 w1 ⟨rfl, hw1⟩
  have HG1 := Lib.hid (HG0.out.then hw1)
  have d0 := HG1.out.cellK H.out HK.out (j := 0) (k := a) rfl
  have d1 := HG1.out.cellK H.out HK.out (j := 1) (k := b) rfl
  have d2 := HG1.out.cellK H.out HK.out (j := 2) (k := c) rfl
  have d3 := HG1.out.cellK H.out HK.out (j := 3) (k := d) rfl
  simp only [Nat.add_zero] at d0
  clear hw1
  go_wp2_with fail
  go_region_held3 (fun w' => X.Go W1 w' ∧ w'.cell? ⟨g, off, none⟩ = some (.int .i64 a) ∧ w'.cell? ⟨g, off + 1, none⟩ = some (.int .i64 b) ∧ w'.cell? ⟨g, off + 2, none⟩ = some (.int .i64 c) ∧ w'.cell? ⟨g, off + 3, none⟩ = some (.int .i64 d))
    ((refine keep4K ?_ H.out HK.out rfl rfl rfl rfl; repeat (first | with_reducible exact hk9 | with_reducible exact hk8 | with_reducible exact hk7 | with_reducible exact hk6 | with_reducible exact HG1.out | with_reducible apply Cx.Go.drew | with_reducible apply Cx.Go.alloc)))
    (first
      | (go_at_call 22; refine (KKa.out _ (by first | exact HG1.out.drew | exact HG1.out)).mono ?_; rintro e6 w6 ⟨⟨g6, rfl, -⟩, h6⟩; have hk6 : X.Go W1 w6 := (by first | exact HG1.out.drew.trans h6 | exact HG1.out.trans h6))
      | (go_at_call 60; rw [show (#[.pointer (some ⟨X.bB, 0, none⟩), .int .i64 (b : Int)] : Array Value) = #[.pointer (some ⟨X.bB, 0, none⟩), .int .i64 (b : Int)] from rfl]; refine (KKb.out _ hk6).mono ?_; rintro e7 w7 ⟨rfl, h7⟩; have hk7 : X.Go W1 w7 := hk6.trans h7)
      | (go_at_call 60; rw [show (#[.pointer (some ⟨X.bB, 0, none⟩), .int .i64 (c : Int)] : Array Value) = #[.pointer (some ⟨X.bB, 0, none⟩), .int .i64 (c : Int)] from rfl]; refine (KKc.out _ hk7).mono ?_; rintro e8 w8 ⟨⟨t8, g8, rfl⟩, h8⟩; have hk8 : X.Go W1 w8 := hk7.trans h8)
      | (go_at_call 60; rw [show (#[.pointer (some ⟨X.bB, 0, none⟩), .int .i64 (d : Int)] : Array Value) = #[.pointer (some ⟨X.bB, 0, none⟩), .int .i64 (d : Int)] from rfl]; refine (KKd.out _ hk8).mono ?_; rintro e9 w9 ⟨⟨t9, g9, rfl⟩, h9⟩; have hk9 : X.Go W1 w9 := hk8.trans h9))
  all_goals
    go_wp2_with fail
    go_ret
    exact ⟨⟨_, rfl, fun h => absurd (show (17 : Int) = 23 from h) (by decide)⟩, HG.out.trans (hk9.alloc _)⟩
set_option maxRecDepth 100000 in
set_option maxHeartbeats 6400000 in
theorem sugar17NEN (X : Cx) (hok : X.OK) (op : Int) (tx : ByteArray) (fl sz : Int) (w : World) (h : X.Inv w) (m : Nat) (hN : NodeA X m) (A2 : Option Addr) (cq : Nat) (a b c d : Nat) (hk : KidsOK w X.n A2 cq ([a, b, c, d])) (hm : ∀ k ∈ [a, b, c, d], m ≤ k) (ha : Ex X.es a) (hb : Kd X.es [31] b) (hc : Ex X.es c) (hd : Kd X.es [31] d) :
    Calls Try.prog 46 #[.pointer (some ⟨X.bB, 0, none⟩), .agg #[.int .i64 17, .int .i64 op, .string tx, .int .i64 fl, .int .i64 sz], .slice A2 4 cq] w (NdPost X ⟨17, op, tx, fl, sz⟩ w) := by
  obtain ⟨W1, hW1, hgo, hin, hbk⟩ := box_in X ⟨17, op, tx, fl, sz⟩ w h
  simp only at hW1 hbk
  have hk1 := hgo.kids h hk
  have H := Lib.hid hin
  have HK := Lib.hid hk1
  have HBk := Lib.hid hbk
  have HG := Lib.hid hgo
  have HOK := Lib.hid hok
  have HN := Lib.hid hN
  have HM := Lib.hid hm
  have HG0 := Lib.hid (hin.go (Below.refl _ _))
  have x0 := hbk.cell 0
  have x1 := hbk.cell 1
  have x2 := hbk.cell 2
  have x3 := hbk.cell 3
  have b0 := hin.2.2.2.1.cell 0
  simp only [Cx.cells, List.getElem?_toArray, List.getElem?_cons_zero, List.getElem?_cons_succ] at x0 x1 x2 x3 b0
  obtain ⟨xa, -, Ka⟩ := hN a (hm a (by simp)) ha
  have KKa := Lib.hid (fun (w' : World) (hg : X.Go W1 w') => Ka w' hg.2)
  obtain ⟨g, off, rfl, hgl, hc0, -⟩ := hk1.cell (j := 0) (k := a) rfl
  simp only [Nat.add_zero] at hc0
  have KKb := Lib.hid (fun (w' : World) (hg : X.Go W1 w') => maybe_none X b w' hg.2 hb)
  have KKc := Lib.hid (fun (w' : World) (hg : X.Go W1 w') => maybe_some X c w' hg.2 hc (hN c (hm c (by simp)) hc))
  have KKd := Lib.hid (fun (w' : World) (hg : X.Go W1 w') => maybe_none X d w' hg.2 hd)
  have KC := Lib.hid (fun (w' : World) => count_any X w' (some ⟨g, off, none⟩) cq 4 4 4 (by decide) (by decide))
  clear Ka ha hb hc hd
  clear h hk hN hm hgo hin hk1 hbk hok
  go_enter Try.func46, Try.ntmps46
  go_wp2_with fail
  refine (KC.out _).mono ?_
  rintro e1 w1 ⟨rfl, hw1⟩
  have HG1 := Lib.hid (HG0.out.then hw1)
  have d0 := HG1.out.cellK H.out HK.out (j := 0) (k := a) rfl
  have d1 := HG1.out.cellK H.out HK.out (j := 1) (k := b) rfl
  have d2 := HG1.out.cellK H.out HK.out (j := 2) (k := c) rfl
  have d3 := HG1.out.cellK H.out HK.out (j := 3) (k := d) rfl
  simp only [Nat.add_zero] at d0
  clear hw1
  go_wp2_with fail
  go_region_held3 (fun w' => X.Go W1 w' ∧ w'.cell? ⟨g, off, none⟩ = some (.int .i64 a) ∧ w'.cell? ⟨g, off + 1, none⟩ = some (.int .i64 b) ∧ w'.cell? ⟨g, off + 2, none⟩ = some (.int .i64 c) ∧ w'.cell? ⟨g, off + 3, none⟩ = some (.int .i64 d))
    ((refine keep4K ?_ H.out HK.out rfl rfl rfl rfl; repeat (first | with_reducible exact hk9 | with_reducible exact hk8 | with_reducible exact hk7 | with_reducible exact hk6 | with_reducible exact HG1.out | with_reducible apply Cx.Go.drew | with_reducible apply Cx.Go.alloc)))
    (first
      | (go_at_call 22; refine (KKa.out _ (by first | exact HG1.out.drew | exact HG1.out)).mono ?_; rintro e6 w6 ⟨⟨g6, rfl, -⟩, h6⟩; have hk6 : X.Go W1 w6 := (by first | exact HG1.out.drew.trans h6 | exact HG1.out.trans h6))
      | (go_at_call 60; rw [show (#[.pointer (some ⟨X.bB, 0, none⟩), .int .i64 (b : Int)] : Array Value) = #[.pointer (some ⟨X.bB, 0, none⟩), .int .i64 (b : Int)] from rfl]; refine (KKb.out _ hk6).mono ?_; rintro e7 w7 ⟨rfl, h7⟩; have hk7 : X.Go W1 w7 := hk6.trans h7)
      | (go_at_call 60; rw [show (#[.pointer (some ⟨X.bB, 0, none⟩), .int .i64 (c : Int)] : Array Value) = #[.pointer (some ⟨X.bB, 0, none⟩), .int .i64 (c : Int)] from rfl]; refine (KKc.out _ hk7).mono ?_; rintro e8 w8 ⟨⟨t8, g8, rfl⟩, h8⟩; have hk8 : X.Go W1 w8 := hk7.trans h8)
      | (go_at_call 60; rw [show (#[.pointer (some ⟨X.bB, 0, none⟩), .int .i64 (d : Int)] : Array Value) = #[.pointer (some ⟨X.bB, 0, none⟩), .int .i64 (d : Int)] from rfl]; refine (KKd.out _ hk8).mono ?_; rintro e9 w9 ⟨rfl, h9⟩; have hk9 : X.Go W1 w9 := hk8.trans h9))
  all_goals
    go_wp2_with fail
    go_ret
    exact ⟨⟨_, rfl, fun h => absurd (show (17 : Int) = 23 from h) (by decide)⟩, HG.out.trans (hk9.alloc _)⟩
set_option maxRecDepth 100000 in
set_option maxHeartbeats 6400000 in
theorem sugar17NNE (X : Cx) (hok : X.OK) (op : Int) (tx : ByteArray) (fl sz : Int) (w : World) (h : X.Inv w) (m : Nat) (hN : NodeA X m) (A2 : Option Addr) (cq : Nat) (a b c d : Nat) (hk : KidsOK w X.n A2 cq ([a, b, c, d])) (hm : ∀ k ∈ [a, b, c, d], m ≤ k) (ha : Ex X.es a) (hb : Kd X.es [31] b) (hc : Kd X.es [31] c) (hd : Ex X.es d) :
    Calls Try.prog 46 #[.pointer (some ⟨X.bB, 0, none⟩), .agg #[.int .i64 17, .int .i64 op, .string tx, .int .i64 fl, .int .i64 sz], .slice A2 4 cq] w (NdPost X ⟨17, op, tx, fl, sz⟩ w) := by
  obtain ⟨W1, hW1, hgo, hin, hbk⟩ := box_in X ⟨17, op, tx, fl, sz⟩ w h
  simp only at hW1 hbk
  have hk1 := hgo.kids h hk
  have H := Lib.hid hin
  have HK := Lib.hid hk1
  have HBk := Lib.hid hbk
  have HG := Lib.hid hgo
  have HOK := Lib.hid hok
  have HN := Lib.hid hN
  have HM := Lib.hid hm
  have HG0 := Lib.hid (hin.go (Below.refl _ _))
  have x0 := hbk.cell 0
  have x1 := hbk.cell 1
  have x2 := hbk.cell 2
  have x3 := hbk.cell 3
  have b0 := hin.2.2.2.1.cell 0
  simp only [Cx.cells, List.getElem?_toArray, List.getElem?_cons_zero, List.getElem?_cons_succ] at x0 x1 x2 x3 b0
  obtain ⟨xa, -, Ka⟩ := hN a (hm a (by simp)) ha
  have KKa := Lib.hid (fun (w' : World) (hg : X.Go W1 w') => Ka w' hg.2)
  obtain ⟨g, off, rfl, hgl, hc0, -⟩ := hk1.cell (j := 0) (k := a) rfl
  simp only [Nat.add_zero] at hc0
  have KKb := Lib.hid (fun (w' : World) (hg : X.Go W1 w') => maybe_none X b w' hg.2 hb)
  have KKc := Lib.hid (fun (w' : World) (hg : X.Go W1 w') => maybe_none X c w' hg.2 hc)
  have KKd := Lib.hid (fun (w' : World) (hg : X.Go W1 w') => maybe_some X d w' hg.2 hd (hN d (hm d (by simp)) hd))
  have KC := Lib.hid (fun (w' : World) => count_any X w' (some ⟨g, off, none⟩) cq 4 4 4 (by decide) (by decide))
  clear Ka ha hb hc hd
  clear h hk hN hm hgo hin hk1 hbk hok
  go_enter Try.func46, Try.ntmps46
  go_wp2_with fail
  refine (KC.out _).mono ?_
  rintro e1 w1 ⟨rfl, hw1⟩
  have HG1 := Lib.hid (HG0.out.then hw1)
  have d0 := HG1.out.cellK H.out HK.out (j := 0) (k := a) rfl
  have d1 := HG1.out.cellK H.out HK.out (j := 1) (k := b) rfl
  have d2 := HG1.out.cellK H.out HK.out (j := 2) (k := c) rfl
  have d3 := HG1.out.cellK H.out HK.out (j := 3) (k := d) rfl
  simp only [Nat.add_zero] at d0
  clear hw1
  go_wp2_with fail
  go_region_held3 (fun w' => X.Go W1 w' ∧ w'.cell? ⟨g, off, none⟩ = some (.int .i64 a) ∧ w'.cell? ⟨g, off + 1, none⟩ = some (.int .i64 b) ∧ w'.cell? ⟨g, off + 2, none⟩ = some (.int .i64 c) ∧ w'.cell? ⟨g, off + 3, none⟩ = some (.int .i64 d))
    ((refine keep4K ?_ H.out HK.out rfl rfl rfl rfl; repeat (first | with_reducible exact hk9 | with_reducible exact hk8 | with_reducible exact hk7 | with_reducible exact hk6 | with_reducible exact HG1.out | with_reducible apply Cx.Go.drew | with_reducible apply Cx.Go.alloc)))
    (first
      | (go_at_call 22; refine (KKa.out _ (by first | exact HG1.out.drew | exact HG1.out)).mono ?_; rintro e6 w6 ⟨⟨g6, rfl, -⟩, h6⟩; have hk6 : X.Go W1 w6 := (by first | exact HG1.out.drew.trans h6 | exact HG1.out.trans h6))
      | (go_at_call 60; rw [show (#[.pointer (some ⟨X.bB, 0, none⟩), .int .i64 (b : Int)] : Array Value) = #[.pointer (some ⟨X.bB, 0, none⟩), .int .i64 (b : Int)] from rfl]; refine (KKb.out _ hk6).mono ?_; rintro e7 w7 ⟨rfl, h7⟩; have hk7 : X.Go W1 w7 := hk6.trans h7)
      | (go_at_call 60; rw [show (#[.pointer (some ⟨X.bB, 0, none⟩), .int .i64 (c : Int)] : Array Value) = #[.pointer (some ⟨X.bB, 0, none⟩), .int .i64 (c : Int)] from rfl]; refine (KKc.out _ hk7).mono ?_; rintro e8 w8 ⟨rfl, h8⟩; have hk8 : X.Go W1 w8 := hk7.trans h8)
      | (go_at_call 60; rw [show (#[.pointer (some ⟨X.bB, 0, none⟩), .int .i64 (d : Int)] : Array Value) = #[.pointer (some ⟨X.bB, 0, none⟩), .int .i64 (d : Int)] from rfl]; refine (KKd.out _ hk8).mono ?_; rintro e9 w9 ⟨⟨t9, g9, rfl⟩, h9⟩; have hk9 : X.Go W1 w9 := hk8.trans h9))
  all_goals
    go_wp2_with fail
    go_ret
    exact ⟨⟨_, rfl, fun h => absurd (show (17 : Int) = 23 from h) (by decide)⟩, HG.out.trans (hk9.alloc _)⟩
set_option maxRecDepth 100000 in
set_option maxHeartbeats 6400000 in
theorem sugar17NNN (X : Cx) (hok : X.OK) (op : Int) (tx : ByteArray) (fl sz : Int) (w : World) (h : X.Inv w) (m : Nat) (hN : NodeA X m) (A2 : Option Addr) (cq : Nat) (a b c d : Nat) (hk : KidsOK w X.n A2 cq ([a, b, c, d])) (hm : ∀ k ∈ [a, b, c, d], m ≤ k) (ha : Ex X.es a) (hb : Kd X.es [31] b) (hc : Kd X.es [31] c) (hd : Kd X.es [31] d) :
    Calls Try.prog 46 #[.pointer (some ⟨X.bB, 0, none⟩), .agg #[.int .i64 17, .int .i64 op, .string tx, .int .i64 fl, .int .i64 sz], .slice A2 4 cq] w (NdPost X ⟨17, op, tx, fl, sz⟩ w) := by
  obtain ⟨W1, hW1, hgo, hin, hbk⟩ := box_in X ⟨17, op, tx, fl, sz⟩ w h
  simp only at hW1 hbk
  have hk1 := hgo.kids h hk
  have H := Lib.hid hin
  have HK := Lib.hid hk1
  have HBk := Lib.hid hbk
  have HG := Lib.hid hgo
  have HOK := Lib.hid hok
  have HN := Lib.hid hN
  have HM := Lib.hid hm
  have HG0 := Lib.hid (hin.go (Below.refl _ _))
  have x0 := hbk.cell 0
  have x1 := hbk.cell 1
  have x2 := hbk.cell 2
  have x3 := hbk.cell 3
  have b0 := hin.2.2.2.1.cell 0
  simp only [Cx.cells, List.getElem?_toArray, List.getElem?_cons_zero, List.getElem?_cons_succ] at x0 x1 x2 x3 b0
  obtain ⟨xa, -, Ka⟩ := hN a (hm a (by simp)) ha
  have KKa := Lib.hid (fun (w' : World) (hg : X.Go W1 w') => Ka w' hg.2)
  obtain ⟨g, off, rfl, hgl, hc0, -⟩ := hk1.cell (j := 0) (k := a) rfl
  simp only [Nat.add_zero] at hc0
  have KKb := Lib.hid (fun (w' : World) (hg : X.Go W1 w') => maybe_none X b w' hg.2 hb)
  have KKc := Lib.hid (fun (w' : World) (hg : X.Go W1 w') => maybe_none X c w' hg.2 hc)
  have KKd := Lib.hid (fun (w' : World) (hg : X.Go W1 w') => maybe_none X d w' hg.2 hd)
  have KC := Lib.hid (fun (w' : World) => count_any X w' (some ⟨g, off, none⟩) cq 4 4 4 (by decide) (by decide))
  clear Ka ha hb hc hd
  clear h hk hN hm hgo hin hk1 hbk hok
  go_enter Try.func46, Try.ntmps46
  go_wp2_with fail
  refine (KC.out _).mono ?_
  rintro e1 w1 ⟨rfl, hw1⟩
  have HG1 := Lib.hid (HG0.out.then hw1)
  have d0 := HG1.out.cellK H.out HK.out (j := 0) (k := a) rfl
  have d1 := HG1.out.cellK H.out HK.out (j := 1) (k := b) rfl
  have d2 := HG1.out.cellK H.out HK.out (j := 2) (k := c) rfl
  have d3 := HG1.out.cellK H.out HK.out (j := 3) (k := d) rfl
  simp only [Nat.add_zero] at d0
  clear hw1
  go_wp2_with fail
  go_region_held3 (fun w' => X.Go W1 w' ∧ w'.cell? ⟨g, off, none⟩ = some (.int .i64 a) ∧ w'.cell? ⟨g, off + 1, none⟩ = some (.int .i64 b) ∧ w'.cell? ⟨g, off + 2, none⟩ = some (.int .i64 c) ∧ w'.cell? ⟨g, off + 3, none⟩ = some (.int .i64 d))
    ((refine keep4K ?_ H.out HK.out rfl rfl rfl rfl; repeat (first | with_reducible exact hk9 | with_reducible exact hk8 | with_reducible exact hk7 | with_reducible exact hk6 | with_reducible exact HG1.out | with_reducible apply Cx.Go.drew | with_reducible apply Cx.Go.alloc)))
    (first
      | (go_at_call 22; refine (KKa.out _ (by first | exact HG1.out.drew | exact HG1.out)).mono ?_; rintro e6 w6 ⟨⟨g6, rfl, -⟩, h6⟩; have hk6 : X.Go W1 w6 := (by first | exact HG1.out.drew.trans h6 | exact HG1.out.trans h6))
      | (go_at_call 60; rw [show (#[.pointer (some ⟨X.bB, 0, none⟩), .int .i64 (b : Int)] : Array Value) = #[.pointer (some ⟨X.bB, 0, none⟩), .int .i64 (b : Int)] from rfl]; refine (KKb.out _ hk6).mono ?_; rintro e7 w7 ⟨rfl, h7⟩; have hk7 : X.Go W1 w7 := hk6.trans h7)
      | (go_at_call 60; rw [show (#[.pointer (some ⟨X.bB, 0, none⟩), .int .i64 (c : Int)] : Array Value) = #[.pointer (some ⟨X.bB, 0, none⟩), .int .i64 (c : Int)] from rfl]; refine (KKc.out _ hk7).mono ?_; rintro e8 w8 ⟨rfl, h8⟩; have hk8 : X.Go W1 w8 := hk7.trans h8)
      | (go_at_call 60; rw [show (#[.pointer (some ⟨X.bB, 0, none⟩), .int .i64 (d : Int)] : Array Value) = #[.pointer (some ⟨X.bB, 0, none⟩), .int .i64 (d : Int)] from rfl]; refine (KKd.out _ hk8).mono ?_; rintro e9 w9 ⟨rfl, h9⟩; have hk9 : X.Go W1 w9 := hk8.trans h9))
  all_goals
    go_wp2_with fail
    go_ret
    exact ⟨⟨_, rfl, fun h => absurd (show (17 : Int) = 23 from h) (by decide)⟩, HG.out.trans (hk9.alloc _)⟩
end Go.Proofs.Ytdhhdnopilfifaa
