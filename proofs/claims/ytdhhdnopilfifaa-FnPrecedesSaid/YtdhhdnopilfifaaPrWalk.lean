/-
  FnPrecedes: the statement's function answers true.
-/
import Derived.Test.YtdhhdnopilfifaaPrPreced
namespace Go.Proofs.Ytdhhdnopilfifaa
open Go.RowKit

theorem root_cells {w : World} {B : Nat} {A : Option Addr} {n : Nat} {es : List ND} {e0 : ND} (h : Nodes w B A n es) (he : es[0]? = some e0) : ∃ b o, A = some ⟨b, o, none⟩ ∧ 0 < n ∧ w.cell? ⟨b, o, none⟩ = some (.int .i64 e0.kind) ∧ w.cell? ⟨b, o + 1, none⟩ = some (.int .i64 e0.op) ∧
    w.cell? ⟨b, o + 2, none⟩ = some (.string e0.text) ∧ w.cell? ⟨b, o + 3, none⟩ = some (.int .i64 e0.flag) ∧ w.cell? ⟨b, o + 4, none⟩ = some (.int .i64 e0.size) := by
  have hp : 0 < n := by have := (List.getElem?_eq_some_iff.1 he).1; rw [h.1] at this; exact this
  obtain ⟨b, o, e, rfl, -, hek, c0, c1, c2, c3, c4⟩ := h.at_ hp
  rw [he] at hek
  cases hek
  simp only [Nat.zero_mul, Nat.add_zero] at c0 c1 c2 c3 c4
  exact ⟨b, o, rfl, hp, c0, c1, c2, c3, c4⟩
set_option maxRecDepth 100000 in
set_option maxHeartbeats 6400000 in
theorem precedes_walk (A1 A2 : Option Addr) (n1 q1 n2 q2 : Nat) (es1 es2 : List ND) (w : World) (h1 : Nodes w w.heap.size A1 n1 es1) (h2 : Nodes w w.heap.size A2 n2 es2) (s1 : SoundN es1) (s2 : SoundN es2) (hc1 : n1 ≤ q1) (hc2 : n2 ≤ q2) (hm1 : n1 ≤ maxLen) (hm2 : n2 ≤ maxLen) :
    Calls Try.prog 3 #[.slice A1 n1 q1, .slice A2 n2 q2] w (fun e w' => e = .returned (.bool true) ∧ Below w.heap.size w w') := by
  have H1 := Lib.hid h1
  have H2 := Lib.hid h2
  have KZ1 := Lib.hid (zzFits1_any A1 n1 q1 es1 w.heap.size w h1 (Nat.le_refl _) hm1 s1)
  have KZ2 := Lib.hid (fun (w' : World) (hb : Below w.heap.size w w') => zzFits1_any A2 n2 q2 es2 w.heap.size w' (h2.below hb (Nat.le_refl _)) hb.size hm2 s2)
  clear h1 h2 s1 s2
  go_enter Try.func3, Try.ntmps3
  go_wp2_with fail
  refine KZ1.out.mono ?_
  rintro e1 w1 ⟨⟨b1, rfl, hb1⟩, hw1⟩
  have HB1 := Lib.hid hw1
  cases b1
  · clear hb1 hw1
    go_wp2_with fail
    go_ret
    exact ⟨rfl, HB1.out⟩
  have HT1 := Lib.hid (hb1 rfl)
  clear hb1 hw1
  go_wp2_with fail
  refine (KZ2.out _ HB1.out).mono ?_
  rintro e2 w2 ⟨⟨b2, rfl, hb2⟩, hw2⟩
  have HB2 := Lib.hid (HB1.out.trans (hw2.mono HB1.out.size))
  cases b2
  · clear hb2 hw2
    go_wp2_with fail
    go_ret
    exact ⟨rfl, HB2.out⟩
  have HT2 := Lib.hid (hb2 rfl)
  have K3 := Lib.hid (thin_any A1 n1 q1 es1 w.heap.size w2 (H1.out.below HB2.out (Nat.le_refl _)) HB2.out.size HT1.out.2 HT1.out.1)
  have K4 := Lib.hid (fun (w' : World) (hb : Below w.heap.size w w') => thin_any A2 n2 q2 es2 w.heap.size w' (H2.out.below hb (Nat.le_refl _)) hb.size HT2.out.2 HT2.out.1)
  clear hb2 hw2 KZ1 KZ2
  go_wp2_with fail
  refine K3.out.mono ?_
  rintro e3 w3 ⟨⟨b3, rfl, hb3⟩, hw3⟩
  have HB3 := Lib.hid (HB2.out.trans (hw3.mono HB2.out.size))
  cases b3
  · clear hb3 hw3
    go_wp2_with fail
    go_ret
    exact ⟨rfl, HB3.out⟩
  have HR1 := Lib.hid (hb3 rfl)
  clear hb3 hw3
  go_wp2_with fail
  refine (K4.out _ HB3.out).mono ?_
  rintro e4 w4 ⟨⟨b4, rfl, hb4⟩, hw4⟩
  have HB4 := Lib.hid (HB3.out.trans (hw4.mono HB3.out.size))
  cases b4
  · clear hb4 hw4
    go_wp2_with fail
    go_ret
    exact ⟨rfl, HB4.out⟩
  have HR2 := Lib.hid (hb4 rfl)
  clear hb4 hw4 K3 K4
  obtain ⟨⟨-, x1, -, hx1, -, -, -⟩, -⟩ := HR1.out
  obtain ⟨⟨-, x2, -, hx2, -, -, -⟩, -⟩ := HR2.out
  have HX1 := Lib.hid hx1
  have HX2 := Lib.hid hx2
  obtain ⟨bA, oA, rfl, hp1, a0, a1, a2, a3, a4⟩ := root_cells (H1.out.below HB4.out (Nat.le_refl _)) hx1
  obtain ⟨bB, oB, rfl, hp2, b0, b1, b2, b3, b4⟩ := root_cells (H2.out.below HB4.out (Nat.le_refl _)) hx2
  have KO1 := Lib.hid (odd_any x1.kind w4)
  have KO2 := Lib.hid (odd_any x2.kind w4)
  have hz1 : (0 : Int) < (n1 : Int) := by omega
  have hz2 : (0 : Int) < (n2 : Int) := by omega
  clear hx1 hx2
  go_wp2_with fail
  refine KO1.out.mono ?_
  rintro e5 w5 ⟨rfl, rfl⟩
  cases hq1 : oddK x1.kind
  rotate_left
  · go_wp2_with fail
    go_ret
    exact ⟨rfl, HB4.out⟩
  have HO1 := Lib.hid hq1
  clear hq1
  go_wp2_with fail
  refine KO2.out.mono ?_
  rintro e6 w6 ⟨rfl, rfl⟩
  cases hq2 : oddK x2.kind
  rotate_left
  · go_wp2_with fail
    go_ret
    exact ⟨rfl, HB4.out⟩
  have HO2 := Lib.hid hq2
  clear hq2
  have KP1 := Lib.hid (preced_any (some ⟨bA, oA, none⟩) n1 q1 es1 w.heap.size w4 (H1.out.below HB4.out (Nat.le_refl _)) HB4.out.size HR1.out.2 hc1 HR1.out.1)
  have KP2 := Lib.hid (fun (w' : World) (hb : Below w.heap.size w w') => preced_any (some ⟨bB, oB, none⟩) n2 q2 es2 w.heap.size w' (H2.out.below hb (Nat.le_refl _)) hb.size HR2.out.2 hc2 HR2.out.1)
  clear KO1 KO2 a0 a1 a2 a3 a4 b0 b1 b2 b3 b4
  go_wp2_with fail
  refine KP1.out.mono ?_
  rintro e7 w7 ⟨⟨y1, hy1, k11, k12, k13, rfl⟩, hw7⟩
  obtain rfl : y1 = x1 := by have := hy1.symm.trans HX1.out; cases this; rfl
  have HB7 := Lib.hid (HB4.out.trans (hw7.mono HB4.out.size))
  obtain ⟨r10, r11, r12⟩ := prec_rank y1.kind y1.op k11 k12 k13 HO1.out
  have HL1 := Lib.hid (And.intro r10 (And.intro r11 r12))
  have KR1 := Lib.hid (fun (w' : World) => rank_any y1 w' k11 k12 k13)
  clear hy1 k11 k12 k13 hw7 r10 r11 r12
  generalize precK y1.kind y1.op = p1 at *
  go_wp2_with fail
  refine (KP2.out _ HB7.out).mono ?_
  rintro e8 w8 ⟨⟨y2, hy2, k21, k22, k23, rfl⟩, hw8⟩
  obtain rfl : y2 = x2 := by have := hy2.symm.trans HX2.out; cases this; rfl
  have HB8 := Lib.hid (HB7.out.trans (hw8.mono HB7.out.size))
  obtain ⟨r20, r21, r22⟩ := prec_rank y2.kind y2.op k21 k22 k23 HO2.out
  have HL2 := Lib.hid (And.intro r20 (And.intro r21 r22))
  have KR2 := Lib.hid (fun (w' : World) => rank_any y2 w' k21 k22 k23)
  clear hy2 k21 k22 k23 hw8 r20 r21 r22
  generalize precK y2.kind y2.op = p2 at *
  generalize rankK y1.kind y1.op = m1 at *
  generalize rankK y2.kind y2.op = m2 at *
  obtain ⟨b', o', hA, -, a0, a1, a2, a3, a4⟩ := root_cells (H1.out.below HB8.out (Nat.le_refl _)) HX1.out
  cases hA
  obtain ⟨b', o', hA, -, b0, b1, b2, b3, b4⟩ := root_cells (H2.out.below HB8.out (Nat.le_refl _)) HX2.out
  cases hA
  have la0 := fun (y : Later w8) => Later.cell a0 y
  have la1 := fun (y : Later w8) => Later.cell a1 y
  have la2 := fun (y : Later w8) => Later.cell a2 y
  have la3 := fun (y : Later w8) => Later.cell a3 y
  have la4 := fun (y : Later w8) => Later.cell a4 y
  have lb0 := fun (y : Later w8) => Later.cell b0 y
  have lb1 := fun (y : Later w8) => Later.cell b1 y
  have lb2 := fun (y : Later w8) => Later.cell b2 y
  have lb3 := fun (y : Later w8) => Later.cell b3 y
  have lb4 := fun (y : Later w8) => Later.cell b4 y
  go_upto_region 6 with fail
  refine wp_region_later (by kernel_rfl) (by kernel_rfl) ?_
  repeat (go_big_quiet_step (first | (go_at_call 8; rw [show (#[.agg #[.int .i64 y1.kind, .int .i64 y1.op, .string y1.text, .int .i64 y1.flag, .int .i64 y1.size]] : Array Value) = #[.agg #[.int .i64 y1.kind, .int .i64 y1.op, .string y1.text, .int .i64 y1.flag, .int .i64 y1.size]] from rfl]; exact later_call (KR1.out _)) | (go_at_call 8; rw [show (#[.agg #[.int .i64 y2.kind, .int .i64 y2.op, .string y2.text, .int .i64 y2.flag, .int .i64 y2.size]] : Array Value) = #[.agg #[.int .i64 y2.kind, .int .i64 y2.op, .string y2.text, .int .i64 y2.flag, .int .i64 y2.size]] from rfl]; exact later_call (KR2.out _))))
  refine wpQuiet_nil ?_
  rintro w9 ⟨y, rfl⟩
  have HB9 := Lib.hid (HB8.out.trans (y.ok.mono HB8.out.size))
  generalize y.val = w9 at *
  clear la0 la1 la2 la3 la4 lb0 lb1 lb2 lb3 lb4 a0 a1 a2 a3 a4 b0 b1 b2 b3 b4
  obtain ⟨hpp1, hpp2, hlt, heq⟩ := law_of HL1.out.1 HL1.out.2.1 HL2.out.1 HL2.out.2.1 HL1.out.2.2 HL2.out.2.2
  have g1 : ¬ p1 ≤ 0 := by omega
  have g2 : ¬ p2 ≤ 0 := by omega
  have hc : (p1 < p2 ∧ m1 < m2) ∨ (p1 = p2 ∧ m1 = m2) ∨ (p2 < p1 ∧ m2 < m1) := by omega
  clear hlt heq hpp1 hpp2 HL1 HL2 KR1 KR2
  rcases hc with ⟨u1, u2⟩ | ⟨rfl, rfl⟩ | ⟨u1, u2⟩
  · have f1 : (p1 == p2) = false := by simp; omega
    have f2 : (m1 == m2) = false := by simp; omega
    go_wp2_with fail
    go_ret
    exact ⟨rfl, HB9.out⟩
  · go_wp2_with fail
    go_ret
    exact ⟨rfl, HB9.out⟩
  · have f1 : (p1 == p2) = false := by simp; omega
    have f2 : (m1 == m2) = false := by simp; omega
    have f3 : ¬ p1 < p2 := by omega
    have f4 : ¬ m1 < m2 := by omega
    go_wp2_with fail
    go_ret
    exact ⟨rfl, HB9.out⟩
end Go.Proofs.Ytdhhdnopilfifaa
