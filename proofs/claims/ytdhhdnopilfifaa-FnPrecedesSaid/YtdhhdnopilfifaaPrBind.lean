/-
  The builder: bind.
-/
import Derived.Test.YtdhhdnopilfifaaPrFn
namespace Go.Proofs.Ytdhhdnopilfifaa
open Go.RowKit

def bdCells (tx : ByteArray) (v : Value) (p : Option Addr) : Array Value := #[.slice none 0 0, v, .slice none 0 0, .string tx, .slice none 0 0, .pointer p, .pointer none, .string ⟨#[]⟩, .int .i64 0, .int .i64 0, .int .i64 0, .int .i64 0]
def BdPost (X : Cx) (w : World) (e : Ending) (w' : World) : Prop := (∃ tx t g p, e = .returned (.agg (bdCells tx (.iface t (.pointer (some ⟨g, 0, none⟩))) p))) ∧ X.Go w w'
def bdSet (w2 : World) (g : Nat) (tx : ByteArray) (v : Value) (p : Option Addr) : World := ((((((((((((w2.setCell ⟨g, 0, none⟩ (.slice none 0 0)).setCell ⟨g, 1, none⟩ (v)).setCell ⟨g, 2, none⟩ (.slice none 0 0)).setCell ⟨g, 3, none⟩ (.string tx)).setCell ⟨g, 4, none⟩ (.slice none 0 0)).setCell ⟨g, 5, none⟩ (.pointer p)).setCell ⟨g, 6, none⟩ (.pointer none)).setCell ⟨g, 7, none⟩ (.string ⟨#[]⟩)).setCell ⟨g, 8, none⟩ (.int .i64 0)).setCell ⟨g, 9, none⟩ (.int .i64 0)).setCell ⟨g, 10, none⟩ (.int .i64 0)).setCell ⟨g, 11, none⟩ (.int .i64 0))
theorem bd_blk {w2 : World} {g : Nat} {tx0 tx : ByteArray} {v0 v : Value} {p0 p : Option Addr} (h : Blk w2 g 164 (bdCells tx0 v0 p0)) : Blk (bdSet w2 g tx v p) g 164 (bdCells tx v p) := by
  have := ((((((((((((h.set_ 0 (.slice none 0 0)).set_ 1 (v)).set_ 2 (.slice none 0 0)).set_ 3 (.string tx)).set_ 4 (.slice none 0 0)).set_ 5 (.pointer p)).set_ 6 (.pointer none)).set_ 7 (.string ⟨#[]⟩)).set_ 8 (.int .i64 0)).set_ 9 (.int .i64 0)).set_ 10 (.int .i64 0)).set_ 11 (.int .i64 0))
  simpa [bdCells, bdSet] using this
theorem bd_go {X : Cx} {w w2 : World} {g : Nat} {tx : ByteArray} {v : Value} {p : Option Addr} (h : X.Go w w2) (hi : X.Inv w) (hg : w.heap.size ≤ g) : X.Go w (bdSet w2 g tx v p) := by
  unfold bdSet
  exact ((((((((((((h.set hi hg _).set hi hg _).set hi hg _).set hi hg _).set hi hg _).set hi hg _).set hi hg _).set hi hg _).set hi hg _).set hi hg _).set hi hg _).set hi hg _)
set_option maxRecDepth 100000 in
set_option maxHeartbeats 6400000 in
theorem bind_any (X : Cx) (hok : X.OK) (w : World) (h : X.Inv w) (k : Nat) (hN : NodeA X k) (hk : Kd X.es [32] k) :
    Calls Try.prog 59 #[.pointer (some ⟨X.bB, 0, none⟩), .int .i64 k] w (BdPost X w) := by
  have hkn : k < X.n := by
    obtain ⟨x, hx, -⟩ := hk
    have := (List.getElem?_eq_some_iff.1 hx).1
    rw [hok.2.2] at this
    exact this
  have HR := Lib.hid (Blk.new w 164 (bdCells ⟨#[]⟩ .nilIface none))
  have hgo := (h.go (Below.refl _ _)).alloc (.cells (bdCells ⟨#[]⟩ .nilIface none) 164)
  obtain ⟨W1, hW1⟩ : ∃ W1, w.alloc (.cells (bdCells ⟨#[]⟩ .nilIface none) 164) = W1 := ⟨_, rfl⟩
  rw [hW1] at HR hgo
  unfold bdCells at hW1
  have H := Lib.hid h
  have HN := Lib.hid hN
  have HG := Lib.hid hgo
  obtain ⟨e, hek, hbare, hsh, hml, hll, hgt, c0, c1, c2, c3, c4, b0, hbw, KB0⟩ := at_facts X hok W1 hgo.2 k hkn
  have hk32 : e.kind = 32 := by
    obtain ⟨x, hx, hm⟩ := hk
    rw [hek] at hx
    cases hx
    simpa using hm
  have hfl : e.flag = 0 ∨ e.flag = 1 := hbare.1 (by simp [hk32])
  have hcase : P32 X.es e.flag (X.kl k) := by
    have := hsh
    unfold ShapeP GreatP at this
    rw [hk32] at this
    simpa [inL0, inL1] using this
  have HK32 := Lib.hid hk32
  have HFL := Lib.hid hfl
  have HC := Lib.hid hcase
  have KB := Lib.hid KB0
  have HML := Lib.hid hml
  have HLL := Lib.hid hll
  have HGT := Lib.hid hgt
  have b1 := hgo.2.2.2.2.1.cell 1
  simp only [Cx.cells, List.getElem?_toArray, List.getElem?_cons_zero, List.getElem?_cons_succ] at b1
  clear hk32 hfl hcase h hN hgo hsh hml hll hgt KB0 hbare hk hek
  generalize X.kl k = l at *
  go_enter Try.func59, Try.ntmps59
  go_upto_region 1 with fail
  go_cut [5, 6] (fun s8 s9 wx => ∃ (g : Nat) (A3 : Option Addr) (c3 : Nat), s8 = .pointer (some ⟨g, 0, none⟩) ∧ s9 = .slice A3 l.length c3 ∧ Hid (ShI X.n e l W1 wx g A3 c3))
  case first =>
    go_region_held3 (fun w' => (Below W1.heap.size W1 w' ∧ w'.cell? ⟨X.b, X.o + k * 5, none⟩ = some (.int .i64 e.kind) ∧ w'.cell? ⟨X.b, X.o + k * 5 + 1, none⟩ = some (.int .i64 e.op) ∧ w'.cell? ⟨X.b, X.o + k * 5 + 2, none⟩ = some (.string e.text) ∧ w'.cell? ⟨X.b, X.o + k * 5 + 3, none⟩ = some (.int .i64 e.flag) ∧ w'.cell? ⟨X.b, X.o + k * 5 + 4, none⟩ = some (.int .i64 e.size)) ∧ w'.cell? ⟨X.bB, 0, none⟩ = some (.slice (some ⟨X.b, X.o, none⟩) X.n X.c))
      ((refine keepR ?_ c0 c1 c2 c3 c4 b0; repeat (first | with_reducible exact Below.refl _ _ | with_reducible exact hk9 | with_reducible apply Below.drew | with_reducible apply belowS_alloc | (with_reducible refine belowS_set ?_ (Nat.le_refl _) _))))
      (first
        | (go_at_call 41; refine (KB.out W1.drew (Below.refl _ _).drew).mono ?_; rintro e9 w9 ⟨⟨A9, c9, rfl, hr9⟩, hb9⟩; have hk9 : Below W1.heap.size W1 w9 := below_of1 hb9)
        | (go_at_call 41; refine (KB.out (W1.alloc (.cells zeroA 26)).drew (belowS_alloc (Below.refl _ _) _).drew).mono ?_; rintro e9 w9 ⟨⟨A9, c9, rfl, hr9⟩, hb9⟩; have hk9 : Below W1.heap.size W1 w9 := below_of2 hb9; have hN := blk_of2 hb9; have hbs : W1.heap.size + 1 ≤ (W1.alloc (.cells zeroA 26)).drew.heap.size := (by show W1.heap.size + 1 ≤ (W1.alloc _).heap.size; simp); have n0 := hN.cell 0; have n1 := hN.cell 1; have n2 := hN.cell 2; have n3 := hN.cell 3; have n4 := hN.cell 4; have m0 := hN.frozen 0; have m1 := hN.frozen 1; have m2 := hN.frozen 2; have m3 := hN.frozen 3; have m4 := hN.frozen 4; simp only [zeroA, List.getElem?_toArray, List.getElem?_cons_zero, List.getElem?_cons_succ] at n0 n1 n2 n3 n4)
        | (go_at_call 41; refine (KB.out (W1.alloc (.cells (cellsA e) 26)).drew (belowS_alloc (Below.refl _ _) _).drew).mono ?_; rintro e9 w9 ⟨⟨A9, c9, rfl, hr9⟩, hb9⟩; have hk9 : Below W1.heap.size W1 w9 := below_of2 hb9; have hN := blk_of2 hb9))
    all_goals
      go_wp2_with fail
      go_meet
      first
        | (have hz9 := hbs; exact ⟨_, _, _, rfl, rfl, Lib.hid (shI_2 hk9 hr9 HML.out HLL.out hN hz9)⟩)
        | (have hz9 := hN; exact ⟨_, _, _, rfl, rfl, Lib.hid (shI_3 hk9 hr9 HML.out HLL.out hz9)⟩)
        | exact ⟨_, _, _, rfl, rfl, Lib.hid (shI_1 hk9 hr9 HML.out HLL.out)⟩
  case rest =>
    obtain ⟨gb, A3, q3, rfl, rfl, HI2⟩ := hcut
    obtain ⟨hbx, hko, hb⟩ := HI2.out
    have hgc := HG.out.2.go hb
    have HGc := Lib.hid (HG.out.trans hgc)
    have HRc := Lib.hid (hgc.blk HG.out.2 HR.out (by decide))
    have x0 := hbx.cell 0
    have x2 := hbx.cell 2
    have x3 := hbx.cell 3
    simp only [cellsA, List.getElem?_toArray, List.getElem?_cons_zero, List.getElem?_cons_succ] at x0 x2 x3
    rw [HK32.out] at x0
    have hzc : w.heap.size < wc.heap.size := HRc.out.lt
    have HKO := Lib.hid hko
    have HB3 := Lib.hid hbx
    clear HI2 c0 c1 c2 c3 c4 b0 b1 hbx hko hb hgc
    obtain ⟨⟨r, a, rfl, hr, ha⟩, hlen⟩ := HC.out
    have hHa : k ≤ a := Nat.le_of_lt (HGT.out a (by simp))
    rcases HFL.out with f | f
    · have hr0 : r = [] := by
        have : (r ++ [a]).length = 1 := by omega
        simpa using this
      subst hr0
      rw [f] at x3
      obtain ⟨xq, -, KQ⟩ := HN.out a hHa ha
      have KKQ := Lib.hid KQ
      clear KQ hlen hr ha
      have hA := HGc.out.alloc (.cells (bdCells e.text .nilIface none) 164)
      obtain ⟨gq, oq, rfl, hglq, hcq, -⟩ := HKO.out.cell (j := 0) (k := a) rfl
      have y5 : (wc.alloc (.cells (bdCells e.text .nilIface none) 164)).cell? ⟨gq, oq, none⟩ = some (.int .i64 a) := (((HGc.out.2.go (Below.refl _ _)).alloc _).cellK HGc.out.2 HKO.out (j := 0) (k := a) rfl)
      have y0 := (HB3.out.alloc (.cells (bdCells e.text .nilIface none) 164)).cell 0
      have y3 := (HB3.out.alloc (.cells (bdCells e.text .nilIface none) 164)).cell 3
      simp only [cellsA, bdCells, List.getElem?_toArray, List.getElem?_cons_zero, List.getElem?_cons_succ] at y0 y3 y5
      rw [HK32.out] at y0
      rw [f] at y3
      have zl : (([] : List Nat) ++ [a]).length = 1 := rfl
      go_wp2_with fail
      refine (KKQ.out _ hA.2).mono ?_
      rintro e2 w2 ⟨⟨g5, rfl, -⟩, hgo2⟩
      generalize tyOf xq.kind = t5 at *
      have HG2 := Lib.hid (hA.trans hgo2)
      have HP := hgo2.blk hA.2 (Blk.new wc 164 (bdCells e.text .nilIface none)) (by decide)
      have HQ := hgo2.blk hA.2 (HRc.out.alloc _) (by decide)
      have fp1 := HP.frozen 1
      have a0 := HP.cell 0
      have b0 := HQ.cell 0
      have fz0 := HQ.frozen 0
      have a1 := HP.cell 1
      have b1 := HQ.cell 1
      have fz1 := HQ.frozen 1
      have a2 := HP.cell 2
      have b2 := HQ.cell 2
      have fz2 := HQ.frozen 2
      have a3 := HP.cell 3
      have b3 := HQ.cell 3
      have fz3 := HQ.frozen 3
      have a4 := HP.cell 4
      have b4 := HQ.cell 4
      have fz4 := HQ.frozen 4
      have a5 := HP.cell 5
      have b5 := HQ.cell 5
      have fz5 := HQ.frozen 5
      have a6 := HP.cell 6
      have b6 := HQ.cell 6
      have fz6 := HQ.frozen 6
      have a7 := HP.cell 7
      have b7 := HQ.cell 7
      have fz7 := HQ.frozen 7
      have a8 := HP.cell 8
      have b8 := HQ.cell 8
      have fz8 := HQ.frozen 8
      have a9 := HP.cell 9
      have b9 := HQ.cell 9
      have fz9 := HQ.frozen 9
      have a10 := HP.cell 10
      have b10 := HQ.cell 10
      have fz10 := HQ.frozen 10
      have a11 := HP.cell 11
      have b11 := HQ.cell 11
      have fz11 := HQ.frozen 11
      simp only [bdCells, List.getElem?_toArray, List.getElem?_cons_zero, List.getElem?_cons_succ] at a0 b0 a1 b1 a2 b2 a3 b3 a4 b4 a5 b5 a6 b6 a7 b7 a8 b8 a9 b9 a10 b10 a11 b11
      clear hgo2 hA
      have hne : w.heap.size ≠ wc.heap.size := by omega
      have HQ1 := HQ.far (p := ⟨wc.heap.size, 1, none⟩) (by show w.heap.size ≠ wc.heap.size; omega) (.iface t5 (.pointer (some ⟨g5, 0, none⟩)))
      have HGs := HG2.out.set H.out (g := wc.heap.size) (i := 1) (by omega) (.iface t5 (.pointer (some ⟨g5, 0, none⟩)))
      have hbl := bd_blk (tx := e.text) (v := .iface t5 (.pointer (some ⟨g5, 0, none⟩))) (p := none) HQ1
      have hfin := bd_go (tx := e.text) (v := .iface t5 (.pointer (some ⟨g5, 0, none⟩))) (p := none) HGs H.out (Nat.le_refl _)
      unfold bdSet at hbl hfin
      go_wp2_with fail
      generalize (((((((((((((w2.setCell ⟨wc.heap.size, 1, none⟩ (.iface t5 (.pointer (some ⟨g5, 0, none⟩)))).setCell _ _).setCell _ _).setCell _ _).setCell _ _).setCell _ _).setCell _ _).setCell _ _).setCell _ _).setCell _ _).setCell _ _).setCell _ _).setCell _ _) = W at hbl hfin ⊢
      have r0 := hbl.cell 0
      have r1 := hbl.cell 1
      have r2 := hbl.cell 2
      have r3 := hbl.cell 3
      have r4 := hbl.cell 4
      have r5 := hbl.cell 5
      have r6 := hbl.cell 6
      have r7 := hbl.cell 7
      have r8 := hbl.cell 8
      have r9 := hbl.cell 9
      have r10 := hbl.cell 10
      have r11 := hbl.cell 11
      simp only [bdCells, List.getElem?_toArray, List.getElem?_cons_zero, List.getElem?_cons_succ] at r0 r1 r2 r3 r4 r5 r6 r7 r8 r9 r10 r11
      refine bodyPost_ret (v := .agg (bdCells e.text (.iface t5 (.pointer (some ⟨g5, 0, none⟩))) none)) ?_ rfl ⟨⟨_, _, _, _, rfl⟩, hfin⟩
      simp [results, Try.results59, go_sem, bdCells, r0, r1, r2, r3, r4, r5, r6, r7, r8, r9, r10, r11]
    · rw [f] at x3
      have hA := HGc.out.alloc (.cells (bdCells e.text .nilIface none) 164)
      have hA1 := (HGc.out.2.go (Below.refl _ _)).alloc (.cells (bdCells e.text .nilIface none) 164)
      have y0 := (HB3.out.alloc (.cells (bdCells e.text .nilIface none) 164)).cell 0
      have y3 := (HB3.out.alloc (.cells (bdCells e.text .nilIface none) 164)).cell 3
      have KF := Lib.hid (function_any X hok _ hA.2 k HN.out A3 q3 r a (hA1.kids HGc.out.2 HKO.out) hr ha (fun j hj => Nat.le_of_lt (HGT.out j hj)))
      have z1 := (hA.2.2.2.2.1.cell 1)
      simp only [Cx.cells, cellsA, bdCells, List.getElem?_toArray, List.getElem?_cons_zero, List.getElem?_cons_succ] at y0 y3 z1
      rw [HK32.out] at y0
      rw [f] at y3
      have zl : (r ++ [a]).length = r.length + 1 := by simp
      rw [zl]
      have ne1 : (((r.length + 1 : Nat) : Int) == 0) = false := by simp; omega
      clear hA1 hlen hr ha
      go_wp2_with fail
      refine KF.out.mono ?_
      rintro e2 w2 ⟨⟨g5, t5, g6, rfl, hc5⟩, hgo2⟩
      have HG2 := Lib.hid (hA.trans hgo2)
      have HP := hgo2.blk hA.2 (Blk.new wc 164 (bdCells e.text .nilIface none)) (by decide)
      have HQ := hgo2.blk hA.2 (HRc.out.alloc _) (by decide)
      have fp5 := HP.frozen 5
      have fp1 := HP.frozen 1
      have hlt5 := World.block_lt_of_cell? w2 _ hc5
      have a0 := HP.cell 0
      have b0 := HQ.cell 0
      have fz0 := HQ.frozen 0
      have a1 := HP.cell 1
      have b1 := HQ.cell 1
      have fz1 := HQ.frozen 1
      have a2 := HP.cell 2
      have b2 := HQ.cell 2
      have fz2 := HQ.frozen 2
      have a3 := HP.cell 3
      have b3 := HQ.cell 3
      have fz3 := HQ.frozen 3
      have a4 := HP.cell 4
      have b4 := HQ.cell 4
      have fz4 := HQ.frozen 4
      have a5 := HP.cell 5
      have b5 := HQ.cell 5
      have fz5 := HQ.frozen 5
      have a6 := HP.cell 6
      have b6 := HQ.cell 6
      have fz6 := HQ.frozen 6
      have a7 := HP.cell 7
      have b7 := HQ.cell 7
      have fz7 := HQ.frozen 7
      have a8 := HP.cell 8
      have b8 := HQ.cell 8
      have fz8 := HQ.frozen 8
      have a9 := HP.cell 9
      have b9 := HQ.cell 9
      have fz9 := HQ.frozen 9
      have a10 := HP.cell 10
      have b10 := HQ.cell 10
      have fz10 := HQ.frozen 10
      have a11 := HP.cell 11
      have b11 := HQ.cell 11
      have fz11 := HQ.frozen 11
      simp only [bdCells, List.getElem?_toArray, List.getElem?_cons_zero, List.getElem?_cons_succ] at a0 b0 a1 b1 a2 b2 a3 b3 a4 b4 a5 b5 a6 b6 a7 b7 a8 b8 a9 b9 a10 b10 a11 b11
      clear hgo2 hA
      have HQ1 := (HQ.far (p := ⟨wc.heap.size, 5, none⟩) (by show w.heap.size ≠ wc.heap.size; omega) (.pointer (some ⟨g5, 0, none⟩))).far (p := ⟨wc.heap.size, 1, none⟩) (by show w.heap.size ≠ wc.heap.size; omega) (.iface t5 (.pointer (some ⟨g6, 0, none⟩)))
      have HGs := (HG2.out.set H.out (g := wc.heap.size) (i := 5) (by omega) (.pointer (some ⟨g5, 0, none⟩))).set H.out (g := wc.heap.size) (i := 1) (by omega) (.iface t5 (.pointer (some ⟨g6, 0, none⟩)))
      have hbl := bd_blk (tx := e.text) (v := .iface t5 (.pointer (some ⟨g6, 0, none⟩))) (p := some ⟨g5, 0, none⟩) HQ1
      have hfin := bd_go (tx := e.text) (v := .iface t5 (.pointer (some ⟨g6, 0, none⟩))) (p := some ⟨g5, 0, none⟩) HGs H.out (Nat.le_refl _)
      unfold bdSet at hbl hfin
      go_wp2_with fail
      generalize ((((((((((((((w2.setCell ⟨wc.heap.size, 5, none⟩ (.pointer (some ⟨g5, 0, none⟩))).setCell ⟨wc.heap.size, 1, none⟩ (.iface t5 (.pointer (some ⟨g6, 0, none⟩)))).setCell _ _).setCell _ _).setCell _ _).setCell _ _).setCell _ _).setCell _ _).setCell _ _).setCell _ _).setCell _ _).setCell _ _).setCell _ _).setCell _ _) = W at hbl hfin ⊢
      have r0 := hbl.cell 0
      have r1 := hbl.cell 1
      have r2 := hbl.cell 2
      have r3 := hbl.cell 3
      have r4 := hbl.cell 4
      have r5 := hbl.cell 5
      have r6 := hbl.cell 6
      have r7 := hbl.cell 7
      have r8 := hbl.cell 8
      have r9 := hbl.cell 9
      have r10 := hbl.cell 10
      have r11 := hbl.cell 11
      simp only [bdCells, List.getElem?_toArray, List.getElem?_cons_zero, List.getElem?_cons_succ] at r0 r1 r2 r3 r4 r5 r6 r7 r8 r9 r10 r11
      refine bodyPost_ret (v := .agg (bdCells e.text (.iface t5 (.pointer (some ⟨g6, 0, none⟩))) (some ⟨g5, 0, none⟩))) ?_ rfl ⟨⟨_, _, _, _, rfl⟩, hfin⟩
      simp [results, Try.results59, go_sem, bdCells, r0, r1, r2, r3, r4, r5, r6, r7, r8, r9, r10, r11]
end Go.Proofs.Ytdhhdnopilfifaa
