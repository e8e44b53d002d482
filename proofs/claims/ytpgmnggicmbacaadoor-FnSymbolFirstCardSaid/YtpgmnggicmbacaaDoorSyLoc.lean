/-
  Locations, errors; the token's start.
-/
import Derived.Test.YtpgmnggicmbacaaDoorSySmall
import Derived.Test.YtpgmnggicmbacaaDoorLater
namespace Go.Proofs.YtpgmnggicmbacaaDoor
open Go.Shelf Go.RowKit
set_option linter.unusedVariables false
set_option linter.unusedSimpArgs false

/-- A lexer that is read no further. -/
def LexW (w : World) (b : Nat) (s : ByteArray) (K : LK) (pos : Nat) (ls : Int) : Prop :=
  ∃ fr ln, Blk w b 81 (cellsX K.f K.g s K.src K.fod K.tok K.ts K.tl K.tc fr pos ln ls) ∧ 0 ≤ ls ∧ ls ≤ pos
theorem LexK.w {w : World} {b : Nat} {s : ByteArray} {K : LK} {pos : Nat} {ls : Int} (h : LexK w b s K pos ls) : LexW w b s K pos ls := by
  obtain ⟨fr, ln, hB, -, -, h3, h4⟩ := h
  exact ⟨fr, ln, hB, h3, h4⟩
theorem LexW.lt {w : World} {b : Nat} {s : ByteArray} {K : LK} {pos : Nat} {ls : Int} (h : LexW w b s K pos ls) : b < w.heap.size := by
  obtain ⟨fr, ln, hB, -⟩ := h
  exact hB.lt
theorem LexW.below {w w' : World} {b : Nat} {s : ByteArray} {K : LK} {pos : Nat} {ls : Int} (h : LexW w b s K pos ls) (hb : Below w.heap.size w w') : LexW w' b s K pos ls := by
  have hl := h.lt
  obtain ⟨fr, ln, hB, h1⟩ := h
  exact ⟨fr, ln, hB.below hb hl, h1⟩
/-- A location is answered. -/
def LocPost (w : World) (e : Ending) (w' : World) : Prop := (∃ a c : Int, e = .returned (.agg #[.int .i64 a, .int .i64 c])) ∧ Below w.heap.size w w'
theorem below_alloc1 (w : World) (o : Obj) : Below w.heap.size w (w.alloc o) := (Below.refl _ _).alloc (Nat.le_refl _) o
theorem below_allocS {a w' : World} (h : Below a.heap.size a w') (o : Obj) : Below a.heap.size a (w'.alloc o) := h.alloc h.size o
set_option maxRecDepth 100000 in
theorem locPos_any (p ln ls : Int) (h0 : 0 ≤ ls) (h1 : ls ≤ p) (h2 : p ≤ 2000000) (w : World) : Calls Tryd.prog 109 #[.agg #[.int .i64 p, .int .i64 ln, .int .i64 ls]] w (LocPost w) := by
  have wr1 : IntKind.i64.wrap (p - ls) = p - ls := IntWalk.i64_in _ (by omega)
  have wr2 : IntKind.i64.wrap (p - ls + 1) = p - ls + 1 := IntWalk.i64_in _ (by omega)
  go_enter Tryd.func109, Tryd.ntmps109
  go_wp2_with fail
  refine bodyPost_ret (v := .agg #[.int .i64 ln, .int .i64 (p - ls + 1)]) ?_ rfl ⟨⟨_, _, rfl⟩, below_allocS (below_alloc1 _ _) _⟩
  simp [results, Tryd.results109, go_sem]
set_option maxRecDepth 100000 in
set_option maxHeartbeats 1600000 in
theorem loc_any (b : Nat) (s : ByteArray) (K : LK) (pos : Nat) (ls : Int) (hp : pos ≤ 1000004) (w : World) (h : LexW w b s K pos ls) : Calls Tryd.prog 101 #[.pointer (some ⟨b, 0, none⟩)] w (LocPost w) := by
  obtain ⟨fr, ln, hB, h3, h4⟩ := h
  have hB2 := hB.alloc (.cells #[.int .i64 0, .int .i64 0] 51)
  have c10 := hB2.cell 10
  have c11 := hB2.cell 11
  have c12 := hB2.cell 12
  simp only [cellsX, List.getElem?_toArray, List.getElem?_cons_zero, List.getElem?_cons_succ] at c10 c11 c12
  have KL := Lib.hid (fun (w' : World) => locPos_any (pos : Int) ln ls h3 h4 (by omega) w')
  have hR := Blk.new w 51 #[.int .i64 0, .int .i64 0]
  have HR := Lib.hid hR
  clear hB hB2 hR
  go_enter Tryd.func101, Tryd.ntmps101
  go_wp2_with fail
  refine (KL.out _).mono ?_
  rintro e1 w1 ⟨⟨a, c, rfl⟩, hb1⟩
  have hR1 := HR.out.below hb1 HR.out.lt
  have r0 := hR1.cell 0
  have r1 := hR1.cell 1
  have f0 := hR1.frozen 0
  have f1 := hR1.frozen 1
  simp only [List.getElem?_toArray, List.getElem?_cons_zero, List.getElem?_cons_succ] at r0 r1
  have HB1 := Lib.hid ((below_alloc1 w (.cells #[.int .i64 0, .int .i64 0] 51)).trans (hb1.mono (by simp)))
  have HP := Lib.hid ((hR1.set_ 0 (.int .i64 a)).set_ 1 (.int .i64 c))
  clear hb1 hR1
  go_wp2_with fail
  have t0 := HP.out.cell 0
  have t1 := HP.out.cell 1
  simp at t0 t1
  refine bodyPost_ret (v := .agg #[.int .i64 a, .int .i64 c]) ?_ rfl ⟨⟨_, _, rfl⟩, (HB1.out.setCell (p := ⟨w.heap.size, 0, none⟩) (Nat.le_refl _) _).setCell (p := ⟨w.heap.size, 1, none⟩) (Nat.le_refl _) _⟩
  simp [results, Tryd.results101, go_sem, t0, t1]
set_option maxRecDepth 100000 in
theorem mlr_any (g : ByteArray) (p : Option Addr) (a c d f : Int) (w : World) : Calls Tryd.prog 96 #[.string g, .pointer p, .agg #[.int .i64 a, .int .i64 c], .agg #[.int .i64 d, .int .i64 f]] w
    (fun e w' => e = .returned (.agg #[.pointer p, .string g, .int .i64 a, .int .i64 c, .int .i64 d, .int .i64 f]) ∧ Below w.heap.size w w') := by
  go_enter Tryd.func96, Tryd.ntmps96
  go_wp2_with fail
  refine bodyPost_ret (v := .agg #[.pointer p, .string g, .int .i64 a, .int .i64 c, .int .i64 d, .int .i64 f]) ?_ rfl ⟨rfl, below_allocS (below_allocS (below_alloc1 _ _) _) _⟩
  simp [results, Tryd.results96, go_sem]
set_option maxRecDepth 100000 in
theorem mse_any (m g : ByteArray) (p : Option Addr) (a c d f : Int) (w : World) : Calls Tryd.prog 37 #[.string m, .agg #[.pointer p, .string g, .int .i64 a, .int .i64 c, .int .i64 d, .int .i64 f]] w
    (fun e w' => e = .returned (.iface 119 (.agg #[.string m, .pointer p, .string g, .int .i64 a, .int .i64 c, .int .i64 d, .int .i64 f])) ∧ Below w.heap.size w w') := by
  go_enter Tryd.func37, Tryd.ntmps37
  go_wp2_with fail
  go_ret
  exact ⟨rfl, below_alloc1 _ _⟩
def ErrPost (w : World) (e : Ending) (w' : World) : Prop := (∃ t v, e = .returned (.iface t v)) ∧ Below w.heap.size w w'
set_option maxRecDepth 100000 in
set_option maxHeartbeats 1600000 in
theorem errPoint_any (b : Nat) (s m : ByteArray) (K : LK) (p : Option Addr) (hK : K.src = .pointer p) (pos : Nat) (ls : Int) (a c : Int) (w : World) (h : LexK w b s K pos ls) :
    Calls Tryd.prog 71 #[.pointer (some ⟨b, 0, none⟩), .string m, .agg #[.int .i64 a, .int .i64 c]] w (ErrPost w) := by
  obtain ⟨fr, ln, hB, -⟩ := h
  rw [hK] at hB
  have hB2 := hB.alloc (.cells #[.int .i64 a, .int .i64 c] 51)
  have hL := Blk.new w 51 #[.int .i64 a, .int .i64 c]
  have HB0 := Lib.hid (below_alloc1 w (.cells #[.int .i64 a, .int .i64 c] 51))
  obtain ⟨W1, hW1⟩ : ∃ W1, w.alloc (.cells #[.int .i64 a, .int .i64 c] 51) = W1 := ⟨_, rfl⟩
  rw [hW1] at hB2 hL HB0
  have c1 := hB2.cell 1
  have c3 := hB2.cell 3
  have l0 := hL.cell 0
  have l1 := hL.cell 1
  simp only [cellsX, List.getElem?_toArray, List.getElem?_cons_zero, List.getElem?_cons_succ] at c1 c3 l0 l1
  have K1 := Lib.hid (fun (w' : World) => mlr_any K.g p a c a c w')
  have K2 := Lib.hid (fun (w' : World) => mse_any m K.g p a c a c w')
  clear hB hB2 hL hK
  go_enter Tryd.func71, Tryd.ntmps71
  go_upto_region 1 with fail
  have k1 := fun (y : Later W1) => Later.cell c1 y
  have k3 := fun (y : Later W1) => Later.cell c3 y
  have m0 := fun (y : Later W1) => Later.cell l0 y
  have m1 := fun (y : Later W1) => Later.cell l1 y
  refine wp_region_later (by kernel_rfl) (by kernel_rfl) ?_
  repeat (go_big_quiet_step (first | (go_at_call 96; exact later_call (K1.out _)) | (go_at_call 37; exact later_call (K2.out _))))
  refine wpQuiet_nil ?_
  rintro w1 ⟨y, rfl⟩
  have HB1 := Lib.hid (HB0.out.trans (y.ok.mono HB0.out.size))
  go_wp2_with fail
  go_ret
  exact ⟨⟨_, _, rfl⟩, HB1.out⟩
end Go.Proofs.YtpgmnggicmbacaaDoor
