/-
  The language's lexer: a token is added.
-/
import Derived.Test.YtpgmnggicmbacaaDoorSyGap
import Derived.Test.YtpgmnggicmbacaaDoorSyLoc
namespace Go.Proofs.YtpgmnggicmbacaaDoor
open Go.Shelf Go.RowKit
set_option linter.unusedVariables false
set_option linter.unusedSimpArgs false

theorem GpI.isUns {b : Nat} {s : ByteArray} {out : Value} {uns bad : Bool} {w wr : World} {p : Nat} (h : GpI b s out uns w wr p bad) {v x : Bool} (hv : v = x) : GpI b s out x w (wr.setCell ⟨b, 5, none⟩ (.bool v)) p bad := by
  subst hv
  exact ⟨h.1.isUns v, grown_set h.2 _ _⟩
theorem info_stok : (Tryd.prog.info? 37).map (fun i => (i.zero, i.size, i.bytes)) = some (some (.agg #[.int .i64 0, .int .i64 0, .string ByteArray.empty, .string ByteArray.empty, .int .i64 0, .int .i64 0]), 6, 64) := by kernel_rfl
theorem info_partsS {t : TypeId} {z : Value} {n b : Nat} (h : (Tryd.prog.info? t).map (fun i => (i.zero, i.size, i.bytes)) = some (some z, n, b)) : ∃ i, Tryd.prog.info? t = some i ∧ i.zero = some z ∧ i.size = n ∧ i.bytes = b := by
  cases hq : Tryd.prog.info? t with
  | none => rw [hq] at h; cases h
  | some i =>
    rw [hq] at h
    simp only [Option.map_some, Option.some.injEq, Prod.mk.injEq] at h
    exact ⟨i, rfl, h.1, h.2.1, h.2.2⟩
/-- A token lies at a block. -/
def TkAt (w : World) (g : Nat) (k fm : Int) (tx vl : ByteArray) (fr tq : Int) : Prop :=
  w.cell? ⟨g, 0, none⟩ = some (.int .i64 k) ∧ w.cell? ⟨g, 1, none⟩ = some (.int .i64 fm) ∧ w.cell? ⟨g, 2, none⟩ = some (.string tx) ∧ w.cell? ⟨g, 3, none⟩ = some (.string vl) ∧ w.cell? ⟨g, 4, none⟩ = some (.int .i64 fr) ∧ w.cell? ⟨g, 5, none⟩ = some (.int .i64 tq)
theorem tkAt_set {w : World} {g b : Nat} {k fm : Int} {tx vl : ByteArray} {fr tq : Int} (hg : g ≠ b) (i : Nat) (u : Value) (h : TkAt w g k fm tx vl fr tq) : TkAt (w.setCell ⟨b, i, none⟩ u) g k fm tx vl fr tq := by
  have key : ∀ j, (w.setCell ⟨b, i, none⟩ u).cell? ⟨g, j, none⟩ = w.cell? ⟨g, j, none⟩ := fun j => World.cell?_setCell_other w _ _ u (fun e => hg (by injection e with e1; exact e1.symm))
  obtain ⟨h0, h1, h2, h3, h4, h5⟩ := h
  exact ⟨(key 0).trans h0, (key 1).trans h1, (key 2).trans h2, (key 3).trans h3, (key 4).trans h4, (key 5).trans h5⟩
def AdPost (b : Nat) (s : ByteArray) (bad uns : Bool) (k fm : Int) (tx vl : ByteArray) (p tq : Nat) (w : World) (e : Ending) (w' : World) : Prop :=
  NoResS e ∧ ∃ g cap, Lx w' b s tq (.slice (some ⟨g, 0, none⟩) 1 cap) bad uns ∧ TkAt w' g k fm tx vl p tq ∧ w.grownBy w' (some b)
set_option maxRecDepth 100000 in
set_option maxHeartbeats 6400000 in
theorem add_any (b : Nat) (s : ByteArray) (bad uns : Bool) (k fm : Int) (tx vl : ByteArray) (p tq : Nat) (w : World) (h : Lx w b s p (.slice none 0 0) bad uns) :
    Calls Tryd.prog 53 #[.pointer (some ⟨b, 0, none⟩), .agg #[.int .i64 k, .int .i64 fm, .string tx, .string vl, .int .i64 0, .int .i64 0], .int .i64 tq] w (AdPost b s bad uns k fm tx vl p tq w) := by
  obtain ⟨i0, hi, hz, hsz, hbb⟩ := info_partsS info_stok
  have hbl := h.lt
  have HL := Lib.hid h
  have c1 := h.c1
  clear h
  have hT := Blk.new w 37 #[.int .i64 k, .int .i64 fm, .string tx, .string vl, .int .i64 0, .int .i64 0]
  have hW := below_alloc1 w (.cells #[.int .i64 k, .int .i64 fm, .string tx, .string vl, .int .i64 0, .int .i64 0] 37)
  go_enter Tryd.func53, Tryd.ntmps53
  go_upto_region 1 with fail
  have hsz1 : (w.alloc (.cells #[.int .i64 k, .int .i64 fm, .string tx, .string vl, .int .i64 0, .int .i64 0] 37)).heap.size = w.heap.size + 1 := by simp
  generalize w.alloc (.cells #[.int .i64 k, .int .i64 fm, .string tx, .string vl, .int .i64 0, .int .i64 0] 37) = W1 at hT hW hsz1 ⊢
  have c1 := (HL.out.below hW).c1
  have t4 := hT.cell 4
  have tf4 := hT.frozen 4
  have hT4 := hT.set_ 4 (.int .i64 p)
  have t5 := hT4.cell 5
  have tf5 := hT4.frozen 5
  have hT5 := hT4.set_ 5 (.int .i64 tq)
  have HW := Lib.hid ((hW.setCell (p := ⟨w.heap.size, 4, none⟩) (Nat.le_refl _) (.int .i64 p)).setCell (p := ⟨w.heap.size, 5, none⟩) (Nat.le_refl _) (.int .i64 tq))
  simp at t4 t5
  have HT5 := Lib.hid hT5
  clear hT hT4 hT5 hW
  go_upto_region 2 with fail
  have HT6 : Hid (Blk ((W1.setCell ⟨w.heap.size, 4, none⟩ (.int .i64 p)).setCell ⟨w.heap.size, 5, none⟩ (.int .i64 tq)) w.heap.size 37 #[.int .i64 k, .int .i64 fm, .string tx, .string vl, .int .i64 p, .int .i64 tq]) := Lib.hid (by simpa using HT5.out)
  clear HT5 t4 t5 tf4 tf5 c1
  generalize (W1.setCell ⟨w.heap.size, 4, none⟩ (.int .i64 p)).setCell ⟨w.heap.size, 5, none⟩ (.int .i64 tq) = W2 at HW HT6 ⊢
  have c2 := (HL.out.below HW.out).c2
  have hB2 := HT6.out
  have k0 := hB2.cell 0
  have k1 := hB2.cell 1
  have k2 := hB2.cell 2
  have k3 := hB2.cell 3
  have k4 := hB2.cell 4
  have k5 := hB2.cell 5
  simp only [List.getElem?_toArray, List.getElem?_cons_zero, List.getElem?_cons_succ] at k0 k1 k2 k3 k4 k5
  have hz2 : w.heap.size ≤ W2.heap.size := HW.out.size
  have HL2 := Lib.hid ((HL.out.below HW.out).below (below_alloc1 W2 (.cells #[.int .i64 k, .int .i64 fm, .string tx, .string vl, .int .i64 p, .int .i64 tq] 37)))
  have e2 := HL2.out.c2
  clear hB2
  go_region_law ((refine step_append_x _ (by rfl) _ _ 65 (by rfl) w.heap.size 37 i0 _ 6 64 Tryd.underlying65 hi hz hsz hbb rfl (by omega) (.slice none 0 0) 0 [] (by rfl) (World.ownsRow_nil _ _ _ _) (W2.heap.size + 1) (some ⟨W2.heap.size, 0, none⟩) 1 1 [.int .i64 k, .int .i64 fm, .string tx, .string vl, .int .i64 p, .int .i64 tq] (by rfl) (Reads.ofBlock (cs := #[.int .i64 k, .int .i64 fm, .string tx, .string vl, .int .i64 p, .int .i64 tq]) (heap_alloc_new _ _) rfl (by omega)) (by simp [Value.oneCell']) (.inr (by omega)) (by unfold maxLen; omega) (by omega) (by simp; omega) (W2.heap.size + 1) (by simp) ?_; intro g2 cap2 w3 hown2 hgrow2 hat2 hlt2; have HL3 := Lib.hid (show Lx w3 b s p (.slice none 0 0) bad uns from Blk.grown (Blk.drew HL2.out) hgrow2 (by simp [Value.ownBlock])); have q2 := HL3.out.c2; have qf2 := Blk.frozen HL3.out 2))
  all_goals
    have hg2 : g2 ≠ b := by
      rcases hat2 with h | h
      · simp [Value.ownBlock] at h
      · omega
    have hT3 : TkAt w3 g2 k fm tx vl p tq := by
      have hc := hown2.cells (g := g2) rfl
      exact ⟨hc 0 _ rfl, hc 1 _ rfl, hc 2 _ rfl, hc 3 _ rfl, hc 4 _ rfl, hc 5 _ rfl⟩
    have hb3 : Below w.heap.size w w3 := ((HW.out.alloc hz2 _).drew).grown hgrow2 (by simp; omega) (fun k hk => by simp [Value.ownBlock] at hk)
    have HT3 := Lib.hid (tkAt_set (b := b) hg2 2 (.slice (some ⟨g2, 0, none⟩) 1 cap2) hT3)
    have HL4 : Hid (Lx (w3.setCell ⟨b, 2, none⟩ (.slice (some ⟨g2, 0, none⟩) 1 cap2)) b s p (.slice (some ⟨g2, 0, none⟩) 1 cap2) bad uns) := Lib.hid (by unfold Lx; simpa [lxC] using Blk.set_ HL3.out 2 (.slice (some ⟨g2, 0, none⟩) 1 cap2))
    have HG4 := Lib.hid (grown_set (grown_below hb3 (some b)) 2 (.slice (some ⟨g2, 0, none⟩) 1 cap2))
    have d1 := HL4.out.c1
    have df1 := Blk.frozen HL4.out 1
    clear hT3 hb3 hown2 hgrow2 hat2 q2 qf2 HL3
    generalize w3.setCell ⟨b, 2, none⟩ (.slice (some ⟨g2, 0, none⟩) 1 cap2) = w4 at HL4 HG4 HT3 d1 df1 ⊢
    go_wp2_with fail
    go_end0
    exact ⟨rfl, g2, cap2, HL4.out.to tq, tkAt_set hg2 1 _ HT3.out, grown_set HG4.out _ _⟩
end Go.Proofs.YtpgmnggicmbacaaDoor
