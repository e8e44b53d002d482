/-
  spec.First: what the language says of a text that begins with a symbol. (Printed by wip/gen_first.py.)
-/
import Derived.Test.YtpgmnggicmbacaaDoorSyTokW
import Derived.Test.YtpgmnggicmbacaaDoorSyGa
import Derived.Test.YtpgmnggicmbacaaDoorSyAny
namespace Go.Proofs.YtpgmnggicmbacaaDoor
open Go.Shelf Go.RowKit
set_option linter.unusedVariables false
set_option linter.unusedSimpArgs false

def tokV (k fm : Int) (tx vl : ByteArray) (fr tq : Int) : Value := .agg #[.int .i64 k, .int .i64 fm, .string tx, .string vl, .int .i64 fr, .int .i64 tq]
theorem blk_six {wr : World} {c : Nat} {t : TypeId} {a0 a1 a2 a3 a4 a5 : Value} (h : Blk wr c t #[a0, a1, a2, a3, a4, a5]) (v0 v1 v2 v3 v4 v5 : Value) : Blk ((((((wr.setCell ⟨c, 0, none⟩ v0).setCell ⟨c, 1, none⟩ v1).setCell ⟨c, 2, none⟩ v2).setCell ⟨c, 3, none⟩ v3).setCell ⟨c, 4, none⟩ v4).setCell ⟨c, 5, none⟩ v5).drew c t #[v0, v1, v2, v3, v4, v5] := by
  have := ((((((h.set_ 0 v0).set_ 1 v1).set_ 2 v2).set_ 3 v3).set_ 4 v4).set_ 5 v5).drew
  simpa using this
theorem below_six {w wr : World} {B c : Nat} (h : Below B w wr) (hc : B ≤ c) (v0 v1 v2 v3 v4 v5 : Value) : Below B w ((((((wr.setCell ⟨c, 0, none⟩ v0).setCell ⟨c, 1, none⟩ v1).setCell ⟨c, 2, none⟩ v2).setCell ⟨c, 3, none⟩ v3).setCell ⟨c, 4, none⟩ v4).setCell ⟨c, 5, none⟩ v5).drew :=
  ((((((h.setCell (p := ⟨c, 0, none⟩) hc v0).setCell (p := ⟨c, 1, none⟩) hc v1).setCell (p := ⟨c, 2, none⟩) hc v2).setCell (p := ⟨c, 3, none⟩) hc v3).setCell (p := ⟨c, 4, none⟩) hc v4).setCell (p := ⟨c, 5, none⟩) hc v5).drew
theorem far_six {wr : World} {c : Nat} {p : Addr} (h : c ≠ p.block) (v0 v1 v2 v3 v4 v5 : Value) : ((((((wr.setCell ⟨c, 0, none⟩ v0).setCell ⟨c, 1, none⟩ v1).setCell ⟨c, 2, none⟩ v2).setCell ⟨c, 3, none⟩ v3).setCell ⟨c, 4, none⟩ v4).setCell ⟨c, 5, none⟩ v5).drew.cell? p = wr.cell? p := by
  have e : ∀ W : World, W.drew.cell? p = W.cell? p := fun _ => rfl
  rw [e, World.cell?_setCell_far _ _ _ _ h, World.cell?_setCell_far _ _ _ _ h, World.cell?_setCell_far _ _ _ _ h, World.cell?_setCell_far _ _ _ _ h, World.cell?_setCell_far _ _ _ _ h, World.cell?_setCell_far _ _ _ _ h]
/-- What First answers. -/
def FiPost (s : ByteArray) (w : World) (e : Ending) (w' : World) : Prop :=
  (∃ (k fm : Int) (tx vl : ByteArray) (fr tq : Int) (ok sure : Bool), e = .returned (.tuple #[tokV k fm tx vl fr tq, .bool ok, .bool sure]) ∧ (sure = true → FirP s k fm tx vl ok)) ∧ Below w.heap.size w w'
set_option maxRecDepth 100000 in
set_option maxHeartbeats 6400000 in
set_option linter.unusedSimpArgs false in
theorem spec_First_any (s : ByteArray) (hs : s.size ≤ 1000000) (h0 : Sym0 s) (w : World) : Calls Tryd.prog 15 #[.string s] w (FiPost s w) := by
  have HS0 := Lib.hid h0
  have KR := Lib.hid (fun w' : World => readable_any s (by omega) w')
  have hR := Blk.new w 37 #[.int .i64 0, .int .i64 0, .string ⟨#[]⟩, .string ⟨#[]⟩, .int .i64 0, .int .i64 0]
  have HB0 := Lib.hid (below_alloc1 w (.cells #[.int .i64 0, .int .i64 0, .string ⟨#[]⟩, .string ⟨#[]⟩, .int .i64 0, .int .i64 0] 37))
  clear h0
  go_enter Tryd.func15, Tryd.ntmps15
  go_upto_region 1 with fail
  go_wp2_with fail
  refine (KR.out _).mono ?_
  rintro e1 w1 ⟨⟨rd, rfl, hrd⟩, rfl⟩
  have HRD := Lib.hid hrd
  clear hrd
  cases rd
  · clear HRD
    go_wp2_with fail
    refine bodyPost_ret (v := .tuple #[tokV 0 0 ⟨#[]⟩ ⟨#[]⟩ 0 0, .bool false, .bool false]) (by simp [results, Tryd.results15, go_sem, tokV]) rfl ⟨⟨0, 0, ⟨#[]⟩, ⟨#[]⟩, 0, 0, false, false, rfl, fun h => by cases h⟩, HB0.out⟩
  · obtain ⟨l, hl⟩ := HRD.out rfl
    have HZ := Lib.hid (show (w.alloc (.cells #[.int .i64 0, .int .i64 0, .string ⟨#[]⟩, .string ⟨#[]⟩, .int .i64 0, .int .i64 0] 37)).heap.size = w.heap.size + 1 by simp)
    generalize w.alloc (.cells #[.int .i64 0, .int .i64 0, .string ⟨#[]⟩, .string ⟨#[]⟩, .int .i64 0, .int .i64 0] 37) = W1 at hR HB0 HZ ⊢
    have HR := Lib.hid hR
    clear hR
    have HTL := Lib.hid (tail_of_pts hl .done)
    clear hl HRD
    have hLx := Blk.new W1 67 #[.string s, .int .i64 0, .slice none 0 0, .bool true, .bool false, .bool false]
    have hR2 := HR.out.alloc (.cells #[.string s, .int .i64 0, .slice none 0 0, .bool true, .bool false, .bool false] 67)
    have HB2 := Lib.hid (below_allocS HB0.out (.cells #[.string s, .int .i64 0, .slice none 0 0, .bool true, .bool false, .bool false] 67))
    have hz1 : W1.heap.size = w.heap.size + 1 := HZ.out
    rw [hz1] at hLx
    go_upto_region 4 with fail
    have HL2 := Lib.hid (show Lx _ (w.heap.size + 1) s 0 (.slice none 0 0) false false from hLx)
    have HR2 := Lib.hid hR2
    clear hLx hR2 HR HB0 hz1 HZ
    generalize W1.alloc (.cells #[.string s, .int .i64 0, .slice none 0 0, .bool true, .bool false, .bool false] 67) = W2 at HL2 HR2 HB2 ⊢
    by_cases hc : Comm s
    · have HC := Lib.hid hc
      go_wp2_with fail
      refine (gap_move (w.heap.size + 1) s _ false hs hc W2 HL2.out).mono ?_
      rintro e3 w3 ⟨rfl, p, bad, hp, hG, hg3⟩
      have HG := Lib.hid hG
      have hR3 := HR2.out.grown hg3 (by simp)
      have HB3 := Lib.hid (HB2.out.trans (grown_toBelow hg3 (Nat.le_succ _) HB2.out.size))
      have c1 := hG.c1
      have c5 := hG.c5
      have i1 : (0 : Int) < (p : Int) := by omega
      clear hG hg3
      go_wp2_with fail
      have f0 := hR3.frozen 0
      have f1 := hR3.frozen 1
      have f2 := hR3.frozen 2
      have f3 := hR3.frozen 3
      have f4 := hR3.frozen 4
      have f5 := hR3.frozen 5
      have t0 := hR3.cell 0
      have t1 := hR3.cell 1
      have t2 := hR3.cell 2
      have t3 := hR3.cell 3
      have t4 := hR3.cell 4
      have t5 := hR3.cell 5
      simp only [List.getElem?_toArray, List.getElem?_cons_zero, List.getElem?_cons_succ] at t0 t1 t2 t3 t4 t5
      have HR3 := Lib.hid hR3
      clear hR3
      go_region_law (fail)
      all_goals
        have HS6 : Hid (Blk (((((((w3.setCell ⟨w.heap.size, 0, none⟩ (.int .i64 0)).setCell ⟨w.heap.size, 1, none⟩ (.int .i64 0)).setCell ⟨w.heap.size, 2, none⟩ (.string ⟨#[]⟩)).setCell ⟨w.heap.size, 3, none⟩ (.string ⟨#[]⟩)).setCell ⟨w.heap.size, 4, none⟩ (.int .i64 0)).setCell ⟨w.heap.size, 5, none⟩ (.int .i64 0)).drew) w.heap.size 37 #[.int .i64 0, .int .i64 0, .string ⟨#[]⟩, .string ⟨#[]⟩, .int .i64 0, .int .i64 0]) := Lib.hid (blk_six HR3.out (.int .i64 0) (.int .i64 0) (.string ⟨#[]⟩) (.string ⟨#[]⟩) (.int .i64 0) (.int .i64 0))
        have HB6 : Hid (Below w.heap.size w (((((((w3.setCell ⟨w.heap.size, 0, none⟩ (.int .i64 0)).setCell ⟨w.heap.size, 1, none⟩ (.int .i64 0)).setCell ⟨w.heap.size, 2, none⟩ (.string ⟨#[]⟩)).setCell ⟨w.heap.size, 3, none⟩ (.string ⟨#[]⟩)).setCell ⟨w.heap.size, 4, none⟩ (.int .i64 0)).setCell ⟨w.heap.size, 5, none⟩ (.int .i64 0)).drew)) := Lib.hid (below_six HB3.out (Nat.le_refl _) (.int .i64 0) (.int .i64 0) (.string ⟨#[]⟩) (.string ⟨#[]⟩) (.int .i64 0) (.int .i64 0))
        clear t0 t1 t2 t3 t4 t5 f0 f1 f2 f3 f4 f5 c1 c5
        generalize ((((((w3.setCell ⟨w.heap.size, 0, none⟩ (.int .i64 0)).setCell ⟨w.heap.size, 1, none⟩ (.int .i64 0)).setCell ⟨w.heap.size, 2, none⟩ (.string ⟨#[]⟩)).setCell ⟨w.heap.size, 3, none⟩ (.string ⟨#[]⟩)).setCell ⟨w.heap.size, 4, none⟩ (.int .i64 0)).setCell ⟨w.heap.size, 5, none⟩ (.int .i64 0)).drew = w6 at HS6 HB6 ⊢
        have g0 := HS6.out.cell 0
        have g1 := HS6.out.cell 1
        have g2 := HS6.out.cell 2
        have g3 := HS6.out.cell 3
        have g4 := HS6.out.cell 4
        have g5 := HS6.out.cell 5
        simp only [List.getElem?_toArray, List.getElem?_cons_zero, List.getElem?_cons_succ] at g0 g1 g2 g3 g4 g5
        go_wp2_with fail
        refine bodyPost_ret (v := .tuple #[tokV 0 0 ⟨#[]⟩ ⟨#[]⟩ 0 0, .bool false, .bool true]) (by simp [results, Tryd.results15, go_sem, tokV, g0, g1, g2, g3, g4, g5]) rfl ⟨⟨0, 0, ⟨#[]⟩, ⟨#[]⟩, 0, 0, false, true, rfl, fun _ => ⟨HTL.out, fun _ => ⟨fun _ => rfl, fun h => absurd HC.out h, fun h => absurd HC.out h⟩⟩⟩, HB6.out⟩
    · have HC := Lib.hid hc
      go_wp2_with fail
      refine (gap_stay (w.heap.size + 1) s _ false hs HS0.out hc W2 HL2.out).mono ?_
      rintro e3 w3 ⟨rfl, hb3⟩
      have HL3 := Lib.hid (HL2.out.below hb3)
      have HR3 := Lib.hid (HR2.out.below hb3 (by have := HL2.out.lt; omega))
      have HB3 := Lib.hid (HB2.out.trans (hb3.mono HB2.out.size))
      have c1 := HL3.out.c1
      have c4 := HL3.out.c4
      have hne : s.toList ≠ [] := fun h => by
        rw [ByteArray.toList_eq] at h
        have h1 := congrArg List.length h
        have h2 : s.data.toList.length = s.size := Array.length_toList
        have h3 := HS0.out.1
        simp only [List.length_nil] at h1
        omega
      have qe : (s.toList == ([] : List UInt8)) = false := by simpa using hne
      have qe2 : s.toList.isEmpty = false := by
        cases hx : s.toList with
        | nil => exact absurd hx hne
        | cons a l => rfl
      clear hb3 hne HL2 HR2 HB2
      go_upto_region 7 with fail
      clear c1 c4 qe qe2
      rcases hbr : bars (by_ s) s.size 0 with _ | _
      · have HBR := Lib.hid hbr
        go_wp2_with fail
        refine (token_op (w.heap.size + 1) s false hs HS0.out HBR.out _ HL3.out).mono ?_
        rintro e4 w4 ⟨rfl, all, t, g, cap, u, p1, p2, p3, hG, ⟨k0, k1, k2, k3, k4, k5⟩, hg4⟩
        have HP := Lib.hid (show FirP s 6 0 (s.extract 0 t) ⟨#[]⟩ true ∨ u = true from by
          cases u
          · exact .inl ⟨HTL.out, fun _ => ⟨fun h => absurd h HC.out, fun _ h => (by rw [HBR.out] at h; cases h), fun _ _ => ⟨rfl, rfl, all, t, p1, (p3 rfl).1, p2, (p3 rfl).2, rfl⟩⟩⟩
          · exact .inr rfl)
        clear p1 p2 p3 hbr
        have hR3 := HR3.out.grown hg4 (by simp)
        have HB3n := Lib.hid (HB3.out.trans (grown_toBelow hg4 (Nat.le_succ _) HB3.out.size))
        clear HR3 HB3
        have HB3 := HB3n
        clear HB3n
        have c2 := hG.c2
        have c4 := hG.c4
        have c5 := hG.c5
        have f0 := hR3.frozen 0
        have f1 := hR3.frozen 1
        have f2 := hR3.frozen 2
        have f3 := hR3.frozen 3
        have f4 := hR3.frozen 4
        have f5 := hR3.frozen 5
        have t0 := hR3.cell 0
        have t1 := hR3.cell 1
        have t2 := hR3.cell 2
        have t3 := hR3.cell 3
        have t4 := hR3.cell 4
        have t5 := hR3.cell 5
        simp only [List.getElem?_toArray, List.getElem?_cons_zero, List.getElem?_cons_succ] at t0 t1 t2 t3 t4 t5
        have HR3 := Lib.hid hR3
        clear hR3
        have hS : w4.drew.cell? ⟨w.heap.size + 1, 2, none⟩ = some (.slice (some ⟨g, 0, none⟩) 1 cap) ∧ w4.drew.cell? ⟨w.heap.size + 1, 5, none⟩ = some (.bool u) ∧ w4.drew.cell? ⟨g, 0, none⟩ = some (.int .i64 6) ∧ w4.drew.cell? ⟨g, 1, none⟩ = some (.int .i64 0) ∧ w4.drew.cell? ⟨g, 2, none⟩ = some (.string (s.extract 0 t)) ∧ w4.drew.cell? ⟨g, 3, none⟩ = some (.string ⟨#[]⟩) ∧ w4.drew.cell? ⟨g, 4, none⟩ = some (.int .i64 ((0 : Nat) : Int)) ∧ w4.drew.cell? ⟨g, 5, none⟩ = some (.int .i64 (t : Int)) := ⟨c2, c5, k0, k1, k2, k3, k4, k5⟩
        clear hG hg4
        go_upto_region 10 with fail
        refine but_start (n := 13) (S := fun w' => w'.cell? ⟨w.heap.size + 1, 2, none⟩ = some (.slice (some ⟨g, 0, none⟩) 1 cap) ∧ w'.cell? ⟨w.heap.size + 1, 5, none⟩ = some (.bool u) ∧ w'.cell? ⟨g, 0, none⟩ = some (.int .i64 6) ∧ w'.cell? ⟨g, 1, none⟩ = some (.int .i64 0) ∧ w'.cell? ⟨g, 2, none⟩ = some (.string (s.extract 0 t)) ∧ w'.cell? ⟨g, 3, none⟩ = some (.string ⟨#[]⟩) ∧ w'.cell? ⟨g, 4, none⟩ = some (.int .i64 ((0 : Nat) : Int)) ∧ w'.cell? ⟨g, 5, none⟩ = some (.int .i64 (t : Int))) (by kernel_rfl) (by kernel_rfl) ?_
        refine' but_take (i := 0) (v := _) rfl (by kernel_rfl) (by kernel_rfl) (by kernel_rfl) (by kernel_rfl) (by kernel_rfl) (by kernel_rfl) (fun _ _ _ h => h) (Or.inl ⟨by rfl, ?hya0⟩) hS ?resta0
        case hya0 =>
          intro x hx
          obtain ⟨x2, x5, x0, x1, xt, xv, xf, xq⟩ := hx
          go_simp
          try with_reducible rfl
        try simp only [Act.put, List.setIfInBounds_toArray, List.set_cons_zero, List.set_cons_succ]
        refine' but_take (i := 1) (v := _) rfl (by kernel_rfl) (by kernel_rfl) (by kernel_rfl) (by kernel_rfl) (by kernel_rfl) (by kernel_rfl) (fun _ _ _ h => h) (Or.inl ⟨by rfl, ?hya1⟩) hS ?resta1
        case hya1 =>
          intro x hx
          obtain ⟨x2, x5, x0, x1, xt, xv, xf, xq⟩ := hx
          go_simp
          try with_reducible rfl
        try simp only [Act.put, List.setIfInBounds_toArray, List.set_cons_zero, List.set_cons_succ]
        refine' but_take (i := 2) (v := _) rfl (by kernel_rfl) (by kernel_rfl) (by kernel_rfl) (by kernel_rfl) (by kernel_rfl) (by kernel_rfl) (fun _ _ _ h => h) (Or.inl ⟨by rfl, ?hya2⟩) hS ?resta2
        case hya2 =>
          intro x hx
          obtain ⟨x2, x5, x0, x1, xt, xv, xf, xq⟩ := hx
          go_simp
          try with_reducible rfl
        try simp only [Act.put, List.setIfInBounds_toArray, List.set_cons_zero, List.set_cons_succ]
        refine' but_take (i := 3) (v := _) rfl (by kernel_rfl) (by kernel_rfl) (by kernel_rfl) (by kernel_rfl) (by kernel_rfl) (by kernel_rfl) (fun _ _ _ h => h) (Or.inl ⟨by rfl, ?hya3⟩) hS ?resta3
        case hya3 =>
          intro x hx
          obtain ⟨x2, x5, x0, x1, xt, xv, xf, xq⟩ := hx
          go_simp
          try with_reducible rfl
        try simp only [Act.put, List.setIfInBounds_toArray, List.set_cons_zero, List.set_cons_succ]
        refine' but_take (i := 4) (v := _) rfl (by kernel_rfl) (by kernel_rfl) (by kernel_rfl) (by kernel_rfl) (by kernel_rfl) (by kernel_rfl) (fun _ _ _ h => h) (Or.inl ⟨by rfl, ?hya4⟩) hS ?resta4
        case hya4 =>
          intro x hx
          obtain ⟨x2, x5, x0, x1, xt, xv, xf, xq⟩ := hx
          go_simp
          try with_reducible rfl
        try simp only [Act.put, List.setIfInBounds_toArray, List.set_cons_zero, List.set_cons_succ]
        refine' but_take (i := 5) (v := _) rfl (by kernel_rfl) (by kernel_rfl) (by kernel_rfl) (by kernel_rfl) (by kernel_rfl) (by kernel_rfl) (fun _ _ _ h => h) (Or.inl ⟨by rfl, ?hya5⟩) hS ?resta5
        case hya5 =>
          intro x hx
          obtain ⟨x2, x5, x0, x1, xt, xv, xf, xq⟩ := hx
          go_simp
          try with_reducible rfl
        try simp only [Act.put, List.setIfInBounds_toArray, List.set_cons_zero, List.set_cons_succ]
        refine' but_take (i := 6) (v := _) rfl (by kernel_rfl) (by kernel_rfl) (by kernel_rfl) (by kernel_rfl) (by kernel_rfl) (by kernel_rfl) (fun _ _ _ h => h) (Or.inl ⟨by rfl, ?hya6⟩) hS ?resta6
        case hya6 =>
          intro x hx
          obtain ⟨x2, x5, x0, x1, xt, xv, xf, xq⟩ := hx
          go_simp
          try with_reducible rfl
        try simp only [Act.put, List.setIfInBounds_toArray, List.set_cons_zero, List.set_cons_succ]
        refine' but_take (i := 7) (v := _) rfl (by kernel_rfl) (by kernel_rfl) (by kernel_rfl) (by kernel_rfl) (by kernel_rfl) (by kernel_rfl) (fun _ _ _ h => h) (Or.inl ⟨by rfl, ?hya7⟩) hS ?resta7
        case hya7 =>
          intro x hx
          obtain ⟨x2, x5, x0, x1, xt, xv, xf, xq⟩ := hx
          go_simp
          try with_reducible rfl
        try simp only [Act.put, List.setIfInBounds_toArray, List.set_cons_zero, List.set_cons_succ]
        refine' but_take (i := 8) (v := _) rfl (by kernel_rfl) (by kernel_rfl) (by kernel_rfl) (by kernel_rfl) (by kernel_rfl) (by kernel_rfl) (fun _ _ _ h => h) (Or.inl ⟨by rfl, ?hya8⟩) hS ?resta8
        case hya8 =>
          intro x hx
          obtain ⟨x2, x5, x0, x1, xt, xv, xf, xq⟩ := hx
          go_simp
          try with_reducible rfl
        try simp only [Act.put, List.setIfInBounds_toArray, List.set_cons_zero, List.set_cons_succ]
        refine' but_take (i := 9) (v := _) rfl (by kernel_rfl) (by kernel_rfl) (by kernel_rfl) (by kernel_rfl) (by kernel_rfl) (by kernel_rfl) (fun _ _ _ h => h) (Or.inl ⟨by rfl, ?hya9⟩) hS ?resta9
        case hya9 =>
          intro x hx
          obtain ⟨x2, x5, x0, x1, xt, xv, xf, xq⟩ := hx
          go_simp
          try with_reducible rfl
        try simp only [Act.put, List.setIfInBounds_toArray, List.set_cons_zero, List.set_cons_succ]
        refine' but_take (i := 10) (v := _) rfl (by kernel_rfl) (by kernel_rfl) (by kernel_rfl) (by kernel_rfl) (by kernel_rfl) (by kernel_rfl) (fun _ _ _ h => h) (Or.inl ⟨by rfl, ?hya10⟩) hS ?resta10
        case hya10 =>
          intro x hx
          obtain ⟨x2, x5, x0, x1, xt, xv, xf, xq⟩ := hx
          go_simp
          try with_reducible rfl
        try simp only [Act.put, List.setIfInBounds_toArray, List.set_cons_zero, List.set_cons_succ]
        refine but_one (i := 11) rfl (by kernel_rfl) (by kernel_rfl) ?_
        intro K11 hK11
        go_simp
        have hgc : w.heap.size ≠ g := by
          intro e
          rw [← e, t0] at k0
          simp at k0
        have HS6 : Hid (Blk (((((((w4.setCell ⟨w.heap.size, 0, none⟩ (.int .i64 6)).setCell ⟨w.heap.size, 1, none⟩ (.int .i64 0)).setCell ⟨w.heap.size, 2, none⟩ (.string (s.extract 0 t))).setCell ⟨w.heap.size, 3, none⟩ (.string ⟨#[]⟩)).setCell ⟨w.heap.size, 4, none⟩ (.int .i64 ((0 : Nat) : Int))).setCell ⟨w.heap.size, 5, none⟩ (.int .i64 (t : Int))).drew) w.heap.size 37 #[.int .i64 6, .int .i64 0, .string (s.extract 0 t), .string ⟨#[]⟩, .int .i64 ((0 : Nat) : Int), .int .i64 (t : Int)]) := Lib.hid (blk_six HR3.out (.int .i64 6) (.int .i64 0) (.string (s.extract 0 t)) (.string ⟨#[]⟩) (.int .i64 ((0 : Nat) : Int)) (.int .i64 (t : Int)))
        have HB6 : Hid (Below w.heap.size w (((((((w4.setCell ⟨w.heap.size, 0, none⟩ (.int .i64 6)).setCell ⟨w.heap.size, 1, none⟩ (.int .i64 0)).setCell ⟨w.heap.size, 2, none⟩ (.string (s.extract 0 t))).setCell ⟨w.heap.size, 3, none⟩ (.string ⟨#[]⟩)).setCell ⟨w.heap.size, 4, none⟩ (.int .i64 ((0 : Nat) : Int))).setCell ⟨w.heap.size, 5, none⟩ (.int .i64 (t : Int))).drew)) := Lib.hid (below_six HB3.out (Nat.le_refl _) (.int .i64 6) (.int .i64 0) (.string (s.extract 0 t)) (.string ⟨#[]⟩) (.int .i64 ((0 : Nat) : Int)) (.int .i64 (t : Int)))
        have hS6 := And.intro ((far_six (p := ⟨w.heap.size + 1, 2, none⟩) (wr := w4) (c := w.heap.size) (by simp) (.int .i64 6) (.int .i64 0) (.string (s.extract 0 t)) (.string ⟨#[]⟩) (.int .i64 ((0 : Nat) : Int)) (.int .i64 (t : Int))).trans c2) (And.intro ((far_six (p := ⟨w.heap.size + 1, 5, none⟩) (wr := w4) (c := w.heap.size) (by simp) (.int .i64 6) (.int .i64 0) (.string (s.extract 0 t)) (.string ⟨#[]⟩) (.int .i64 ((0 : Nat) : Int)) (.int .i64 (t : Int))).trans c5) (And.intro ((far_six (p := ⟨g, 0, none⟩) (wr := w4) (c := w.heap.size) hgc (.int .i64 6) (.int .i64 0) (.string (s.extract 0 t)) (.string ⟨#[]⟩) (.int .i64 ((0 : Nat) : Int)) (.int .i64 (t : Int))).trans k0) (And.intro ((far_six (p := ⟨g, 1, none⟩) (wr := w4) (c := w.heap.size) hgc (.int .i64 6) (.int .i64 0) (.string (s.extract 0 t)) (.string ⟨#[]⟩) (.int .i64 ((0 : Nat) : Int)) (.int .i64 (t : Int))).trans k1) (And.intro ((far_six (p := ⟨g, 2, none⟩) (wr := w4) (c := w.heap.size) hgc (.int .i64 6) (.int .i64 0) (.string (s.extract 0 t)) (.string ⟨#[]⟩) (.int .i64 ((0 : Nat) : Int)) (.int .i64 (t : Int))).trans k2) (And.intro ((far_six (p := ⟨g, 3, none⟩) (wr := w4) (c := w.heap.size) hgc (.int .i64 6) (.int .i64 0) (.string (s.extract 0 t)) (.string ⟨#[]⟩) (.int .i64 ((0 : Nat) : Int)) (.int .i64 (t : Int))).trans k3) (And.intro ((far_six (p := ⟨g, 4, none⟩) (wr := w4) (c := w.heap.size) hgc (.int .i64 6) (.int .i64 0) (.string (s.extract 0 t)) (.string ⟨#[]⟩) (.int .i64 ((0 : Nat) : Int)) (.int .i64 (t : Int))).trans k4) ((far_six (p := ⟨g, 5, none⟩) (wr := w4) (c := w.heap.size) hgc (.int .i64 6) (.int .i64 0) (.string (s.extract 0 t)) (.string ⟨#[]⟩) (.int .i64 ((0 : Nat) : Int)) (.int .i64 (t : Int))).trans k5)))))))
        refine hK11.out _ _ hS6 ?_
        clear hK11 K11 hS t0 t1 t2 t3 t4 t5 f0 f1 f2 f3 f4 f5 c2 c4 c5 k0 k1 k2 k3 k4 k5
        generalize ((((((w4.setCell ⟨w.heap.size, 0, none⟩ (.int .i64 6)).setCell ⟨w.heap.size, 1, none⟩ (.int .i64 0)).setCell ⟨w.heap.size, 2, none⟩ (.string (s.extract 0 t))).setCell ⟨w.heap.size, 3, none⟩ (.string ⟨#[]⟩)).setCell ⟨w.heap.size, 4, none⟩ (.int .i64 ((0 : Nat) : Int))).setCell ⟨w.heap.size, 5, none⟩ (.int .i64 (t : Int))).drew = w6 at HS6 HB6 hS6 ⊢
        try simp only [Act.put, List.setIfInBounds_toArray, List.set_cons_zero, List.set_cons_succ]
        refine' but_take (i := 12) (v := _) rfl (by kernel_rfl) (by kernel_rfl) (by kernel_rfl) (by kernel_rfl) (by kernel_rfl) (by kernel_rfl) (fun _ _ _ h => h) (Or.inl ⟨by rfl, ?hya12⟩) hS6 ?resta12
        case hya12 =>
          intro x hx
          obtain ⟨x2, x5, x0, x1, xt, xv, xf, xq⟩ := hx
          go_simp
          try with_reducible rfl
        try simp only [Act.put, List.setIfInBounds_toArray, List.set_cons_zero, List.set_cons_succ]
        refine but_last rfl (by kernel_rfl) (by kernel_rfl) ?_
        intro K13 hK13
        go_simp
        refine hK13.out _ _ ?_
        clear hK13 K13 hS6
        try simp only [Act.put, List.setIfInBounds_toArray, List.set_cons_zero, List.set_cons_succ]
        have g0 := HS6.out.cell 0
        have g1 := HS6.out.cell 1
        have g2 := HS6.out.cell 2
        have g3 := HS6.out.cell 3
        have g4 := HS6.out.cell 4
        have g5 := HS6.out.cell 5
        simp only [List.getElem?_toArray, List.getElem?_cons_zero, List.getElem?_cons_succ] at g0 g1 g2 g3 g4 g5
        go_wp2_with fail
        refine bodyPost_ret (v := .tuple #[tokV 6 0 (s.extract 0 t) ⟨#[]⟩ ((0 : Nat) : Int) (t : Int), .bool true, .bool (!u)]) (by simp [results, Tryd.results15, go_sem, tokV, g0, g1, g2, g3, g4, g5]) rfl ⟨⟨6, 0, (s.extract 0 t), ⟨#[]⟩, ((0 : Nat) : Int), (t : Int), true, !u, rfl, fun h => HP.out.resolve_right (by
          intro hu
          rw [hu] at h
          cases h)⟩, HB6.out⟩
      · have HBR := Lib.hid hbr
        go_wp2_with fail
        refine (token_blk (w.heap.size + 1) s false hs HS0.out HBR.out _ HL3.out).mono ?_
        rintro e4 w4 ⟨rfl, bad, u, p, out, ⟨hG, hg4⟩, hcase⟩
        rcases hcase with ⟨rfl, hX⟩ | ⟨rfl, g, cap, l2, rfl, ⟨k0, k1, k2, k3, k4, k5⟩, hX⟩
        · have HP := Lib.hid (show FirP s 0 0 ⟨#[]⟩ ⟨#[]⟩ false ∨ u = true from by
            cases u
            · exact .inl ⟨HTL.out, fun _ => ⟨fun _ => rfl, fun _ _ => ⟨(hX rfl).1, fun h => (by cases h), fun _ => (hX rfl).2⟩, fun _ h => (by rw [HBR.out] at h; cases h)⟩⟩
            · exact .inr rfl)
          have hR3 := HR3.out.grown hg4 (by simp)
          have HB3n := Lib.hid (HB3.out.trans (grown_toBelow hg4 (Nat.le_succ _) HB3.out.size))
          clear HR3 HB3 hX hbr
          have HB3 := HB3n
          clear HB3n
          have c4 := hG.c4
          have c5 := hG.c5
          clear hG hg4
          go_upto_region 9 with fail
          cases u
          · have HP2 := HP.out.resolve_right (by decide)
            have HP3 := Lib.hid HP2
            clear HP HP2
            have f0 := hR3.frozen 0
            have f1 := hR3.frozen 1
            have f2 := hR3.frozen 2
            have f3 := hR3.frozen 3
            have f4 := hR3.frozen 4
            have f5 := hR3.frozen 5
            have t0 := hR3.cell 0
            have t1 := hR3.cell 1
            have t2 := hR3.cell 2
            have t3 := hR3.cell 3
            have t4 := hR3.cell 4
            have t5 := hR3.cell 5
            simp only [List.getElem?_toArray, List.getElem?_cons_zero, List.getElem?_cons_succ] at t0 t1 t2 t3 t4 t5
            have HR3 := Lib.hid hR3
            clear hR3
            go_region_law (fail)
            all_goals
              have HS6 : Hid (Blk (((((((w4.setCell ⟨w.heap.size, 0, none⟩ (.int .i64 0)).setCell ⟨w.heap.size, 1, none⟩ (.int .i64 0)).setCell ⟨w.heap.size, 2, none⟩ (.string ⟨#[]⟩)).setCell ⟨w.heap.size, 3, none⟩ (.string ⟨#[]⟩)).setCell ⟨w.heap.size, 4, none⟩ (.int .i64 0)).setCell ⟨w.heap.size, 5, none⟩ (.int .i64 0)).drew) w.heap.size 37 #[.int .i64 0, .int .i64 0, .string ⟨#[]⟩, .string ⟨#[]⟩, .int .i64 0, .int .i64 0]) := Lib.hid (blk_six HR3.out (.int .i64 0) (.int .i64 0) (.string ⟨#[]⟩) (.string ⟨#[]⟩) (.int .i64 0) (.int .i64 0))
              have HB6 : Hid (Below w.heap.size w (((((((w4.setCell ⟨w.heap.size, 0, none⟩ (.int .i64 0)).setCell ⟨w.heap.size, 1, none⟩ (.int .i64 0)).setCell ⟨w.heap.size, 2, none⟩ (.string ⟨#[]⟩)).setCell ⟨w.heap.size, 3, none⟩ (.string ⟨#[]⟩)).setCell ⟨w.heap.size, 4, none⟩ (.int .i64 0)).setCell ⟨w.heap.size, 5, none⟩ (.int .i64 0)).drew)) := Lib.hid (below_six HB3.out (Nat.le_refl _) (.int .i64 0) (.int .i64 0) (.string ⟨#[]⟩) (.string ⟨#[]⟩) (.int .i64 0) (.int .i64 0))
              clear t0 t1 t2 t3 t4 t5 f0 f1 f2 f3 f4 f5 c4 c5
              generalize ((((((w4.setCell ⟨w.heap.size, 0, none⟩ (.int .i64 0)).setCell ⟨w.heap.size, 1, none⟩ (.int .i64 0)).setCell ⟨w.heap.size, 2, none⟩ (.string ⟨#[]⟩)).setCell ⟨w.heap.size, 3, none⟩ (.string ⟨#[]⟩)).setCell ⟨w.heap.size, 4, none⟩ (.int .i64 0)).setCell ⟨w.heap.size, 5, none⟩ (.int .i64 0)).drew = w6 at HS6 HB6 ⊢
              have g0 := HS6.out.cell 0
              have g1 := HS6.out.cell 1
              have g2 := HS6.out.cell 2
              have g3 := HS6.out.cell 3
              have g4 := HS6.out.cell 4
              have g5 := HS6.out.cell 5
              simp only [List.getElem?_toArray, List.getElem?_cons_zero, List.getElem?_cons_succ] at g0 g1 g2 g3 g4 g5
              go_wp2_with fail
              refine bodyPost_ret (v := .tuple #[tokV 0 0 ⟨#[]⟩ ⟨#[]⟩ 0 0, .bool false, .bool true]) (by simp [results, Tryd.results15, go_sem, tokV, g0, g1, g2, g3, g4, g5]) rfl ⟨⟨0, 0, ⟨#[]⟩, ⟨#[]⟩, 0, 0, false, true, rfl, fun _ => HP3.out⟩, HB6.out⟩
          · clear HP
            have f0 := hR3.frozen 0
            have f1 := hR3.frozen 1
            have f2 := hR3.frozen 2
            have f3 := hR3.frozen 3
            have f4 := hR3.frozen 4
            have f5 := hR3.frozen 5
            have t0 := hR3.cell 0
            have t1 := hR3.cell 1
            have t2 := hR3.cell 2
            have t3 := hR3.cell 3
            have t4 := hR3.cell 4
            have t5 := hR3.cell 5
            simp only [List.getElem?_toArray, List.getElem?_cons_zero, List.getElem?_cons_succ] at t0 t1 t2 t3 t4 t5
            have HR3 := Lib.hid hR3
            clear hR3
            go_region_law (fail)
            all_goals
              have HS6 : Hid (Blk (((((((w4.setCell ⟨w.heap.size, 0, none⟩ (.int .i64 0)).setCell ⟨w.heap.size, 1, none⟩ (.int .i64 0)).setCell ⟨w.heap.size, 2, none⟩ (.string ⟨#[]⟩)).setCell ⟨w.heap.size, 3, none⟩ (.string ⟨#[]⟩)).setCell ⟨w.heap.size, 4, none⟩ (.int .i64 0)).setCell ⟨w.heap.size, 5, none⟩ (.int .i64 0)).drew) w.heap.size 37 #[.int .i64 0, .int .i64 0, .string ⟨#[]⟩, .string ⟨#[]⟩, .int .i64 0, .int .i64 0]) := Lib.hid (blk_six HR3.out (.int .i64 0) (.int .i64 0) (.string ⟨#[]⟩) (.string ⟨#[]⟩) (.int .i64 0) (.int .i64 0))
              have HB6 : Hid (Below w.heap.size w (((((((w4.setCell ⟨w.heap.size, 0, none⟩ (.int .i64 0)).setCell ⟨w.heap.size, 1, none⟩ (.int .i64 0)).setCell ⟨w.heap.size, 2, none⟩ (.string ⟨#[]⟩)).setCell ⟨w.heap.size, 3, none⟩ (.string ⟨#[]⟩)).setCell ⟨w.heap.size, 4, none⟩ (.int .i64 0)).setCell ⟨w.heap.size, 5, none⟩ (.int .i64 0)).drew)) := Lib.hid (below_six HB3.out (Nat.le_refl _) (.int .i64 0) (.int .i64 0) (.string ⟨#[]⟩) (.string ⟨#[]⟩) (.int .i64 0) (.int .i64 0))
              clear t0 t1 t2 t3 t4 t5 f0 f1 f2 f3 f4 f5 c4 c5
              generalize ((((((w4.setCell ⟨w.heap.size, 0, none⟩ (.int .i64 0)).setCell ⟨w.heap.size, 1, none⟩ (.int .i64 0)).setCell ⟨w.heap.size, 2, none⟩ (.string ⟨#[]⟩)).setCell ⟨w.heap.size, 3, none⟩ (.string ⟨#[]⟩)).setCell ⟨w.heap.size, 4, none⟩ (.int .i64 0)).setCell ⟨w.heap.size, 5, none⟩ (.int .i64 0)).drew = w6 at HS6 HB6 ⊢
              have g0 := HS6.out.cell 0
              have g1 := HS6.out.cell 1
              have g2 := HS6.out.cell 2
              have g3 := HS6.out.cell 3
              have g4 := HS6.out.cell 4
              have g5 := HS6.out.cell 5
              simp only [List.getElem?_toArray, List.getElem?_cons_zero, List.getElem?_cons_succ] at g0 g1 g2 g3 g4 g5
              go_wp2_with fail
              refine bodyPost_ret (v := .tuple #[tokV 0 0 ⟨#[]⟩ ⟨#[]⟩ 0 0, .bool false, .bool false]) (by simp [results, Tryd.results15, go_sem, tokV, g0, g1, g2, g3, g4, g5]) rfl ⟨⟨0, 0, ⟨#[]⟩, ⟨#[]⟩, 0, 0, false, false, rfl, fun h => by cases h⟩, HB6.out⟩
        · have HP := Lib.hid (show FirP s 4 5 ⟨#[]⟩ ⟨l2.toArray⟩ true ∨ u = true from by
            cases u
            · exact .inl ⟨HTL.out, fun _ => ⟨fun h => absurd h HC.out, fun _ _ => ⟨(hX rfl).1, fun _ => ⟨rfl, rfl, rfl, (hX rfl).2⟩, fun h => (by cases h)⟩, fun _ h => (by rw [HBR.out] at h; cases h)⟩⟩
            · exact .inr rfl)
          clear hX hbr
          have hR3 := HR3.out.grown hg4 (by simp)
          have HB3n := Lib.hid (HB3.out.trans (grown_toBelow hg4 (Nat.le_succ _) HB3.out.size))
          clear HR3 HB3
          have HB3 := HB3n
          clear HB3n
          have c2 := hG.c2
          have c4 := hG.c4
          have c5 := hG.c5
          have f0 := hR3.frozen 0
          have f1 := hR3.frozen 1
          have f2 := hR3.frozen 2
          have f3 := hR3.frozen 3
          have f4 := hR3.frozen 4
          have f5 := hR3.frozen 5
          have t0 := hR3.cell 0
          have t1 := hR3.cell 1
          have t2 := hR3.cell 2
          have t3 := hR3.cell 3
          have t4 := hR3.cell 4
          have t5 := hR3.cell 5
          simp only [List.getElem?_toArray, List.getElem?_cons_zero, List.getElem?_cons_succ] at t0 t1 t2 t3 t4 t5
          have HR3 := Lib.hid hR3
          clear hR3
          have hS : w4.drew.cell? ⟨w.heap.size + 1, 2, none⟩ = some (.slice (some ⟨g, 0, none⟩) 1 cap) ∧ w4.drew.cell? ⟨w.heap.size + 1, 5, none⟩ = some (.bool u) ∧ w4.drew.cell? ⟨g, 0, none⟩ = some (.int .i64 4) ∧ w4.drew.cell? ⟨g, 1, none⟩ = some (.int .i64 5) ∧ w4.drew.cell? ⟨g, 2, none⟩ = some (.string ⟨#[]⟩) ∧ w4.drew.cell? ⟨g, 3, none⟩ = some (.string ⟨l2.toArray⟩) ∧ w4.drew.cell? ⟨g, 4, none⟩ = some (.int .i64 ((0 : Nat) : Int)) ∧ w4.drew.cell? ⟨g, 5, none⟩ = some (.int .i64 (p : Int)) := ⟨c2, c5, k0, k1, k2, k3, k4, k5⟩
          clear hG hg4
          go_upto_region 10 with fail
          refine but_start (n := 13) (S := fun w' => w'.cell? ⟨w.heap.size + 1, 2, none⟩ = some (.slice (some ⟨g, 0, none⟩) 1 cap) ∧ w'.cell? ⟨w.heap.size + 1, 5, none⟩ = some (.bool u) ∧ w'.cell? ⟨g, 0, none⟩ = some (.int .i64 4) ∧ w'.cell? ⟨g, 1, none⟩ = some (.int .i64 5) ∧ w'.cell? ⟨g, 2, none⟩ = some (.string ⟨#[]⟩) ∧ w'.cell? ⟨g, 3, none⟩ = some (.string ⟨l2.toArray⟩) ∧ w'.cell? ⟨g, 4, none⟩ = some (.int .i64 ((0 : Nat) : Int)) ∧ w'.cell? ⟨g, 5, none⟩ = some (.int .i64 (p : Int))) (by kernel_rfl) (by kernel_rfl) ?_
          refine' but_take (i := 0) (v := _) rfl (by kernel_rfl) (by kernel_rfl) (by kernel_rfl) (by kernel_rfl) (by kernel_rfl) (by kernel_rfl) (fun _ _ _ h => h) (Or.inl ⟨by rfl, ?hyb0⟩) hS ?restb0
          case hyb0 =>
            intro x hx
            obtain ⟨x2, x5, x0, x1, xt, xv, xf, xq⟩ := hx
            go_simp
            try with_reducible rfl
          try simp only [Act.put, List.setIfInBounds_toArray, List.set_cons_zero, List.set_cons_succ]
          refine' but_take (i := 1) (v := _) rfl (by kernel_rfl) (by kernel_rfl) (by kernel_rfl) (by kernel_rfl) (by kernel_rfl) (by kernel_rfl) (fun _ _ _ h => h) (Or.inl ⟨by rfl, ?hyb1⟩) hS ?restb1
          case hyb1 =>
            intro x hx
            obtain ⟨x2, x5, x0, x1, xt, xv, xf, xq⟩ := hx
            go_simp
            try with_reducible rfl
          try simp only [Act.put, List.setIfInBounds_toArray, List.set_cons_zero, List.set_cons_succ]
          refine' but_take (i := 2) (v := _) rfl (by kernel_rfl) (by kernel_rfl) (by kernel_rfl) (by kernel_rfl) (by kernel_rfl) (by kernel_rfl) (fun _ _ _ h => h) (Or.inl ⟨by rfl, ?hyb2⟩) hS ?restb2
          case hyb2 =>
            intro x hx
            obtain ⟨x2, x5, x0, x1, xt, xv, xf, xq⟩ := hx
            go_simp
            try with_reducible rfl
          try simp only [Act.put, List.setIfInBounds_toArray, List.set_cons_zero, List.set_cons_succ]
          refine' but_take (i := 3) (v := _) rfl (by kernel_rfl) (by kernel_rfl) (by kernel_rfl) (by kernel_rfl) (by kernel_rfl) (by kernel_rfl) (fun _ _ _ h => h) (Or.inl ⟨by rfl, ?hyb3⟩) hS ?restb3
          case hyb3 =>
            intro x hx
            obtain ⟨x2, x5, x0, x1, xt, xv, xf, xq⟩ := hx
            go_simp
            try with_reducible rfl
          try simp only [Act.put, List.setIfInBounds_toArray, List.set_cons_zero, List.set_cons_succ]
          refine' but_take (i := 4) (v := _) rfl (by kernel_rfl) (by kernel_rfl) (by kernel_rfl) (by kernel_rfl) (by kernel_rfl) (by kernel_rfl) (fun _ _ _ h => h) (Or.inl ⟨by rfl, ?hyb4⟩) hS ?restb4
          case hyb4 =>
            intro x hx
            obtain ⟨x2, x5, x0, x1, xt, xv, xf, xq⟩ := hx
            go_simp
            try with_reducible rfl
          try simp only [Act.put, List.setIfInBounds_toArray, List.set_cons_zero, List.set_cons_succ]
          refine' but_take (i := 5) (v := _) rfl (by kernel_rfl) (by kernel_rfl) (by kernel_rfl) (by kernel_rfl) (by kernel_rfl) (by kernel_rfl) (fun _ _ _ h => h) (Or.inl ⟨by rfl, ?hyb5⟩) hS ?restb5
          case hyb5 =>
            intro x hx
            obtain ⟨x2, x5, x0, x1, xt, xv, xf, xq⟩ := hx
            go_simp
            try with_reducible rfl
          try simp only [Act.put, List.setIfInBounds_toArray, List.set_cons_zero, List.set_cons_succ]
          refine' but_take (i := 6) (v := _) rfl (by kernel_rfl) (by kernel_rfl) (by kernel_rfl) (by kernel_rfl) (by kernel_rfl) (by kernel_rfl) (fun _ _ _ h => h) (Or.inl ⟨by rfl, ?hyb6⟩) hS ?restb6
          case hyb6 =>
            intro x hx
            obtain ⟨x2, x5, x0, x1, xt, xv, xf, xq⟩ := hx
            go_simp
            try with_reducible rfl
          try simp only [Act.put, List.setIfInBounds_toArray, List.set_cons_zero, List.set_cons_succ]
          refine' but_take (i := 7) (v := _) rfl (by kernel_rfl) (by kernel_rfl) (by kernel_rfl) (by kernel_rfl) (by kernel_rfl) (by kernel_rfl) (fun _ _ _ h => h) (Or.inl ⟨by rfl, ?hyb7⟩) hS ?restb7
          case hyb7 =>
            intro x hx
            obtain ⟨x2, x5, x0, x1, xt, xv, xf, xq⟩ := hx
            go_simp
            try with_reducible rfl
          try simp only [Act.put, List.setIfInBounds_toArray, List.set_cons_zero, List.set_cons_succ]
          refine' but_take (i := 8) (v := _) rfl (by kernel_rfl) (by kernel_rfl) (by kernel_rfl) (by kernel_rfl) (by kernel_rfl) (by kernel_rfl) (fun _ _ _ h => h) (Or.inl ⟨by rfl, ?hyb8⟩) hS ?restb8
          case hyb8 =>
            intro x hx
            obtain ⟨x2, x5, x0, x1, xt, xv, xf, xq⟩ := hx
            go_simp
            try with_reducible rfl
          try simp only [Act.put, List.setIfInBounds_toArray, List.set_cons_zero, List.set_cons_succ]
          refine' but_take (i := 9) (v := _) rfl (by kernel_rfl) (by kernel_rfl) (by kernel_rfl) (by kernel_rfl) (by kernel_rfl) (by kernel_rfl) (fun _ _ _ h => h) (Or.inl ⟨by rfl, ?hyb9⟩) hS ?restb9
          case hyb9 =>
            intro x hx
            obtain ⟨x2, x5, x0, x1, xt, xv, xf, xq⟩ := hx
            go_simp
            try with_reducible rfl
          try simp only [Act.put, List.setIfInBounds_toArray, List.set_cons_zero, List.set_cons_succ]
          refine' but_take (i := 10) (v := _) rfl (by kernel_rfl) (by kernel_rfl) (by kernel_rfl) (by kernel_rfl) (by kernel_rfl) (by kernel_rfl) (fun _ _ _ h => h) (Or.inl ⟨by rfl, ?hyb10⟩) hS ?restb10
          case hyb10 =>
            intro x hx
            obtain ⟨x2, x5, x0, x1, xt, xv, xf, xq⟩ := hx
            go_simp
            try with_reducible rfl
          try simp only [Act.put, List.setIfInBounds_toArray, List.set_cons_zero, List.set_cons_succ]
          refine but_one (i := 11) rfl (by kernel_rfl) (by kernel_rfl) ?_
          intro K11 hK11
          go_simp
          have hgc : w.heap.size ≠ g := by
            intro e
            rw [← e, t0] at k0
            simp at k0
          have HS6 : Hid (Blk (((((((w4.setCell ⟨w.heap.size, 0, none⟩ (.int .i64 4)).setCell ⟨w.heap.size, 1, none⟩ (.int .i64 5)).setCell ⟨w.heap.size, 2, none⟩ (.string ⟨#[]⟩)).setCell ⟨w.heap.size, 3, none⟩ (.string ⟨l2.toArray⟩)).setCell ⟨w.heap.size, 4, none⟩ (.int .i64 ((0 : Nat) : Int))).setCell ⟨w.heap.size, 5, none⟩ (.int .i64 (p : Int))).drew) w.heap.size 37 #[.int .i64 4, .int .i64 5, .string ⟨#[]⟩, .string ⟨l2.toArray⟩, .int .i64 ((0 : Nat) : Int), .int .i64 (p : Int)]) := Lib.hid (blk_six HR3.out (.int .i64 4) (.int .i64 5) (.string ⟨#[]⟩) (.string ⟨l2.toArray⟩) (.int .i64 ((0 : Nat) : Int)) (.int .i64 (p : Int)))
          have HB6 : Hid (Below w.heap.size w (((((((w4.setCell ⟨w.heap.size, 0, none⟩ (.int .i64 4)).setCell ⟨w.heap.size, 1, none⟩ (.int .i64 5)).setCell ⟨w.heap.size, 2, none⟩ (.string ⟨#[]⟩)).setCell ⟨w.heap.size, 3, none⟩ (.string ⟨l2.toArray⟩)).setCell ⟨w.heap.size, 4, none⟩ (.int .i64 ((0 : Nat) : Int))).setCell ⟨w.heap.size, 5, none⟩ (.int .i64 (p : Int))).drew)) := Lib.hid (below_six HB3.out (Nat.le_refl _) (.int .i64 4) (.int .i64 5) (.string ⟨#[]⟩) (.string ⟨l2.toArray⟩) (.int .i64 ((0 : Nat) : Int)) (.int .i64 (p : Int)))
          have hS6 := And.intro ((far_six (p := ⟨w.heap.size + 1, 2, none⟩) (wr := w4) (c := w.heap.size) (by simp) (.int .i64 4) (.int .i64 5) (.string ⟨#[]⟩) (.string ⟨l2.toArray⟩) (.int .i64 ((0 : Nat) : Int)) (.int .i64 (p : Int))).trans c2) (And.intro ((far_six (p := ⟨w.heap.size + 1, 5, none⟩) (wr := w4) (c := w.heap.size) (by simp) (.int .i64 4) (.int .i64 5) (.string ⟨#[]⟩) (.string ⟨l2.toArray⟩) (.int .i64 ((0 : Nat) : Int)) (.int .i64 (p : Int))).trans c5) (And.intro ((far_six (p := ⟨g, 0, none⟩) (wr := w4) (c := w.heap.size) hgc (.int .i64 4) (.int .i64 5) (.string ⟨#[]⟩) (.string ⟨l2.toArray⟩) (.int .i64 ((0 : Nat) : Int)) (.int .i64 (p : Int))).trans k0) (And.intro ((far_six (p := ⟨g, 1, none⟩) (wr := w4) (c := w.heap.size) hgc (.int .i64 4) (.int .i64 5) (.string ⟨#[]⟩) (.string ⟨l2.toArray⟩) (.int .i64 ((0 : Nat) : Int)) (.int .i64 (p : Int))).trans k1) (And.intro ((far_six (p := ⟨g, 2, none⟩) (wr := w4) (c := w.heap.size) hgc (.int .i64 4) (.int .i64 5) (.string ⟨#[]⟩) (.string ⟨l2.toArray⟩) (.int .i64 ((0 : Nat) : Int)) (.int .i64 (p : Int))).trans k2) (And.intro ((far_six (p := ⟨g, 3, none⟩) (wr := w4) (c := w.heap.size) hgc (.int .i64 4) (.int .i64 5) (.string ⟨#[]⟩) (.string ⟨l2.toArray⟩) (.int .i64 ((0 : Nat) : Int)) (.int .i64 (p : Int))).trans k3) (And.intro ((far_six (p := ⟨g, 4, none⟩) (wr := w4) (c := w.heap.size) hgc (.int .i64 4) (.int .i64 5) (.string ⟨#[]⟩) (.string ⟨l2.toArray⟩) (.int .i64 ((0 : Nat) : Int)) (.int .i64 (p : Int))).trans k4) ((far_six (p := ⟨g, 5, none⟩) (wr := w4) (c := w.heap.size) hgc (.int .i64 4) (.int .i64 5) (.string ⟨#[]⟩) (.string ⟨l2.toArray⟩) (.int .i64 ((0 : Nat) : Int)) (.int .i64 (p : Int))).trans k5)))))))
          refine hK11.out _ _ hS6 ?_
          clear hK11 K11 hS t0 t1 t2 t3 t4 t5 f0 f1 f2 f3 f4 f5 c2 c4 c5 k0 k1 k2 k3 k4 k5
          generalize ((((((w4.setCell ⟨w.heap.size, 0, none⟩ (.int .i64 4)).setCell ⟨w.heap.size, 1, none⟩ (.int .i64 5)).setCell ⟨w.heap.size, 2, none⟩ (.string ⟨#[]⟩)).setCell ⟨w.heap.size, 3, none⟩ (.string ⟨l2.toArray⟩)).setCell ⟨w.heap.size, 4, none⟩ (.int .i64 ((0 : Nat) : Int))).setCell ⟨w.heap.size, 5, none⟩ (.int .i64 (p : Int))).drew = w6 at HS6 HB6 hS6 ⊢
          try simp only [Act.put, List.setIfInBounds_toArray, List.set_cons_zero, List.set_cons_succ]
          refine' but_take (i := 12) (v := _) rfl (by kernel_rfl) (by kernel_rfl) (by kernel_rfl) (by kernel_rfl) (by kernel_rfl) (by kernel_rfl) (fun _ _ _ h => h) (Or.inl ⟨by rfl, ?hyb12⟩) hS6 ?restb12
          case hyb12 =>
            intro x hx
            obtain ⟨x2, x5, x0, x1, xt, xv, xf, xq⟩ := hx
            go_simp
            try with_reducible rfl
          try simp only [Act.put, List.setIfInBounds_toArray, List.set_cons_zero, List.set_cons_succ]
          refine but_last rfl (by kernel_rfl) (by kernel_rfl) ?_
          intro K13 hK13
          go_simp
          refine hK13.out _ _ ?_
          clear hK13 K13 hS6
          try simp only [Act.put, List.setIfInBounds_toArray, List.set_cons_zero, List.set_cons_succ]
          have g0 := HS6.out.cell 0
          have g1 := HS6.out.cell 1
          have g2 := HS6.out.cell 2
          have g3 := HS6.out.cell 3
          have g4 := HS6.out.cell 4
          have g5 := HS6.out.cell 5
          simp only [List.getElem?_toArray, List.getElem?_cons_zero, List.getElem?_cons_succ] at g0 g1 g2 g3 g4 g5
          go_wp2_with fail
          refine bodyPost_ret (v := .tuple #[tokV 4 5 ⟨#[]⟩ ⟨l2.toArray⟩ ((0 : Nat) : Int) (p : Int), .bool true, .bool (!u)]) (by simp [results, Tryd.results15, go_sem, tokV, g0, g1, g2, g3, g4, g5]) rfl ⟨⟨4, 5, ⟨#[]⟩, ⟨l2.toArray⟩, ((0 : Nat) : Int), (p : Int), true, !u, rfl, fun h => HP.out.resolve_right (by
            intro hu
            rw [hu] at h
            cases h)⟩, HB6.out⟩
end Go.Proofs.YtpgmnggicmbacaaDoor
