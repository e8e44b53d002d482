/-
  shapedGreat: a field; and all kinds. (Printed by wip/gen_great3.py.)
-/
import Derived.Test.YtdhhdnopilfifaaPrGreat2
namespace Go.Proofs.Ytdhhdnopilfifaa
open Go.RowKit

set_option maxRecDepth 100000 in
set_option maxHeartbeats 3200000 in
theorem great35A (A : Option Addr) (n c : Nat) (es : List ND) (B : Nat) (w : World) (h : Nodes w B A n es) (hB : B ≤ w.heap.size) (hn : n ≤ 1000000) (at_ : Nat) (e : ND) (he : es[at_]? = some e) (A2 : Option Addr) (c2 : Nat) (l : List Nat) (hk : KidsOK w n A2 c2 l) (hk0 : e.kind = 35) (fl : Int) (hf : e.flag = fl) (q1 : (bits BinOp.and IntKind.i64 fl 3 == 2) = false) (q2 : (bits BinOp.and IntKind.i64 fl 8 == 0) = true) (hE : exprF fl = false) :
    Calls Try.prog 31 #[.slice A n c, .int .i64 at_, .slice A2 l.length c2] w (BPost (P35 es fl l) w) := by
  have hat : at_ < n := by have := (List.getElem?_eq_some_iff.1 he).1; rw [h.1] at this; exact this
  have HL := Lib.hid hk.2.2.1
  have hc2 := hk.2.2.2
  obtain ⟨b, o, e', rfl, hbb, hek, c0, c1, cx, c3, c4⟩ := h.at_ hat
  rw [he] at hek
  cases hek
  rw [hk0] at c0
  rw [hf] at c3
  clear hf
  have hbx := Blk.new w 26 #[.int .i64 35, .int .i64 e.op, .string e.text, .int .i64 fl, .int .i64 e.size]
  have HB0 := Lib.hid (show Below w.heap.size w (w.alloc (.cells #[.int .i64 35, .int .i64 e.op, .string e.text, .int .i64 fl, .int .i64 e.size] 26)) from belowS_alloc (Below.refl _ _) _)
  obtain ⟨W1, hW1⟩ : ∃ W1, w.alloc (.cells #[.int .i64 35, .int .i64 e.op, .string e.text, .int .i64 fl, .int .i64 e.size] 26) = W1 := ⟨_, rfl⟩
  rw [hW1] at hbx HB0
  have x0 := hbx.cell 0
  have x1 := hbx.cell 1
  have x3 := hbx.cell 3
  simp only [List.getElem?_toArray, List.getElem?_cons_zero, List.getElem?_cons_succ] at x0 x1 x3
  have HH := Lib.hid (h.below HB0.out hB)
  have HK := Lib.hid (hk.below HB0.out)
  have hBW : B ≤ W1.heap.size := Nat.le_trans hB HB0.out.size
  have HE := Lib.hid he
  have hs0 : w.heap.size < W1.heap.size := hbx.lt
  clear h hk he hbx
  by_cases h1 : l.length = 1
  · obtain ⟨a, rfl⟩ : ∃ a, l = [a] := by
      match l, h1 with
      | [a], _ => exact ⟨a, rfl⟩
    obtain ⟨g, off, rfl, hgl, hca, han⟩ := HK.out.cell (j := 0) (k := a) rfl
    simp only [Nat.add_zero] at hca
    have HBP := Lib.hid (Below.refl W1.heap.size W1)
    have HB1 := Lib.hid (show Below W1.heap.size W1 (W1.alloc (.cells #[.int .i64 33] 3)) from belowS_alloc (Below.refl _ _) _)
    have K := Lib.hid (kinds_any (some ⟨b, o, none⟩) n c es B (W1.alloc (.cells #[.int .i64 33] 3)) (HH.out.below (HBP.out.trans (HB1.out.mono HBP.out.size)) hBW) (Nat.le_trans (Nat.le_trans hBW HBP.out.size) HB1.out.size) hn (some ⟨g, off, none⟩) c2 [] (.inl rfl) (fun k hk => by cases hk) (by simp) (some ⟨W1.heap.size, 0, none⟩) 1 [33] (KS.new W1 _ _ rfl) (by simp))
    rw [show ([a] : List Nat).length = 1 from rfl]
    clear h1
    have hcc : (0 : Int) ≤ (c2 : Int) := by omega
    have HEX := Lib.hid hE
    clear hE
    go_enter Try.func31, Try.ntmps31
    go_wp2_with fail
    refine K.out.mono ?_
    rintro e1 w3 ⟨⟨b1, rfl, hb1⟩, hw1⟩
    have HBX := Lib.hid (HBP.out.trans (HB1.out.trans (hw1.mono HB1.out.size) |>.mono HBP.out.size))
    have HB2 := Lib.hid (HB0.out.trans (HBX.out.mono HB0.out.size))
    cases b1
    · clear hb1 hw1
      go_wp2_with fail
      go_ret
      exact BPost.ret rfl (fun h => by cases h) HB2.out
    · have HKD := Lib.hid (hb1 (by trivial))
      have hca1 := (HBX.out.cell (p := ⟨g, off, none⟩) hgl).trans hca
      have K2 := Lib.hid (expr_any (some ⟨b, o, none⟩) n c es B w3 (HH.out.below HBX.out hBW) a han (by omega))
      clear hb1 hw1
      go_wp2_with fail
      refine K2.out.mono ?_
      rintro e2 w4 hp
      have HP := Lib.hid ((hp.from_ HB2.out).imp (Q := P35 es fl [a]) fun hx => ⟨[], [], a, rfl, fun h => (by rw [HEX.out] at h; cases h), fun _ => rfl, fun _ => rfl, (fun k hk => by cases hk), hx⟩)
      obtain ⟨⟨b2, rfl, -⟩, -⟩ := hp
      go_wp2_with fail
      go_ret
      exact HP.out
  · have q3 : ((l.length : Int) != 1) = true := by simp; omega
    by_cases h0 : l = []
    · subst h0
      go_enter Try.func31, Try.ntmps31
      go_wp2_with fail
      go_ret
      exact BPost.ret rfl (fun h => by cases h) HB0.out
    · have q4 : ¬ ((l.length : Int) < 1) := by have := List.length_pos_iff.2 h0; omega
      clear h0 h1
      go_enter Try.func31, Try.ntmps31
      go_wp2_with fail
      go_ret
      exact BPost.ret rfl (fun h => by cases h) HB0.out
set_option maxRecDepth 100000 in
set_option maxHeartbeats 3200000 in
theorem great35B (A : Option Addr) (n c : Nat) (es : List ND) (B : Nat) (w : World) (h : Nodes w B A n es) (hB : B ≤ w.heap.size) (hn : n ≤ 1000000) (at_ : Nat) (e : ND) (he : es[at_]? = some e) (A2 : Option Addr) (c2 : Nat) (l : List Nat) (hk : KidsOK w n A2 c2 l) (hk0 : e.kind = 35) (fl : Int) (hf : e.flag = fl) (q1 : (bits BinOp.and IntKind.i64 fl 3 == 2) = false) (q2 : (bits BinOp.and IntKind.i64 fl 8 == 0) = false) (hE : exprF fl = false) (h8 : ¬ fl < 8) :
    Calls Try.prog 31 #[.slice A n c, .int .i64 at_, .slice A2 l.length c2] w (BPost (P35 es fl l) w) := by
  have hat : at_ < n := by have := (List.getElem?_eq_some_iff.1 he).1; rw [h.1] at this; exact this
  have HL := Lib.hid hk.2.2.1
  have hc2 := hk.2.2.2
  obtain ⟨b, o, e', rfl, hbb, hek, c0, c1, cx, c3, c4⟩ := h.at_ hat
  rw [he] at hek
  cases hek
  rw [hk0] at c0
  rw [hf] at c3
  clear hf
  have hbx := Blk.new w 26 #[.int .i64 35, .int .i64 e.op, .string e.text, .int .i64 fl, .int .i64 e.size]
  have HB0 := Lib.hid (show Below w.heap.size w (w.alloc (.cells #[.int .i64 35, .int .i64 e.op, .string e.text, .int .i64 fl, .int .i64 e.size] 26)) from belowS_alloc (Below.refl _ _) _)
  obtain ⟨W1, hW1⟩ : ∃ W1, w.alloc (.cells #[.int .i64 35, .int .i64 e.op, .string e.text, .int .i64 fl, .int .i64 e.size] 26) = W1 := ⟨_, rfl⟩
  rw [hW1] at hbx HB0
  have x0 := hbx.cell 0
  have x1 := hbx.cell 1
  have x3 := hbx.cell 3
  simp only [List.getElem?_toArray, List.getElem?_cons_zero, List.getElem?_cons_succ] at x0 x1 x3
  have HH := Lib.hid (h.below HB0.out hB)
  have HK := Lib.hid (hk.below HB0.out)
  have hBW : B ≤ W1.heap.size := Nat.le_trans hB HB0.out.size
  have HE := Lib.hid he
  have hs0 : w.heap.size < W1.heap.size := hbx.lt
  clear h hk he hbx
  by_cases hl0 : l = []
  · subst hl0
    go_enter Try.func31, Try.ntmps31
    go_wp2_with fail
    go_ret
    exact BPost.ret rfl (fun h => by cases h) HB0.out
  · obtain ⟨r, a, rfl⟩ := snoc_of hl0
    have hlen : (r ++ [a]).length = r.length + 1 := by simp
    obtain ⟨g, off, rfl, hgl, hca, han⟩ := HK.out.cell (j := r.length) (k := a) (by simp)
    have HK1 := Lib.hid HK.out.take
    have HLr := Lib.hid HK1.out.2.2.1
    have hrc : r.length ≤ c2 := HK1.out.2.2.2
    have hrci : (r.length : Int) ≤ (c2 : Int) := by omega
    have wr1 : IntKind.i64.wrap (((r.length + 1 : Nat) : Int) - 1) = (r.length : Int) := by rw [IntWalk.i64_in _ (by have := HLr.out; omega)]; omega
    have wr2 : IntKind.i64.wrap ((r.length : Int) + 1 - 1) = (r.length : Int) := by rw [IntWalk.i64_in _ (by have := HLr.out; omega)]; omega
    have hrm : r.length ≤ 1000000 := HLr.out
    have hr0 : (0 : Int) ≤ (r.length : Int) := by omega
    have HBP := Lib.hid (Below.refl W1.heap.size W1)
    have HB1 := Lib.hid (show Below W1.heap.size W1 (W1.alloc (.cells #[.int .i64 33] 3)) from belowS_alloc (Below.refl _ _) _)
    have K := Lib.hid (kinds_any (some ⟨b, o, none⟩) n c es B (W1.alloc (.cells #[.int .i64 33] 3)) (HH.out.below (HBP.out.trans (HB1.out.mono HBP.out.size)) hBW) (Nat.le_trans (Nat.le_trans hBW HBP.out.size) HB1.out.size) hn (some ⟨g, off, none⟩) c2 r (HK1.out.1.below HB1.out) HK1.out.2.1 HLr.out (some ⟨W1.heap.size, 0, none⟩) 1 [33] (KS.new W1 _ _ rfl) (by simp))
    rw [hlen]
    have q3 : ¬ ((r.length : Int) + 1 < 1) := by omega
    have HEX := Lib.hid hE
    have H8 := Lib.hid h8
    clear hE h8 hl0
    go_enter Try.func31, Try.ntmps31
    go_wp2_with fail
    refine K.out.mono ?_
    rintro e1 w3 ⟨⟨b1, rfl, hb1⟩, hw1⟩
    have HBX := Lib.hid (HBP.out.trans (HB1.out.trans (hw1.mono HB1.out.size) |>.mono HBP.out.size))
    have HB2 := Lib.hid (HB0.out.trans (HBX.out.mono HB0.out.size))
    cases b1
    · clear hb1 hw1
      go_wp2_with fail
      go_ret
      exact BPost.ret rfl (fun h => by cases h) HB2.out
    · have HKD := Lib.hid (hb1 (by trivial))
      have hca1 := (HBX.out.cell (p := ⟨g, off + r.length, none⟩) hgl).trans hca
      have K2 := Lib.hid (expr_any (some ⟨b, o, none⟩) n c es B w3 (HH.out.below HBX.out hBW) a han (by omega))
      clear hb1 hw1
      go_wp2_with fail
      refine K2.out.mono ?_
      rintro e2 w4 hp
      have HP := Lib.hid ((hp.from_ HB2.out).imp (Q := P35 es fl (r ++ [a])) fun hx => ⟨[], r, a, rfl, fun h => (by rw [HEX.out] at h; cases h), fun _ => rfl, fun h => absurd h (by have := H8.out; omega), HKD.out, hx⟩)
      obtain ⟨⟨b2, rfl, -⟩, -⟩ := hp
      go_wp2_with fail
      go_ret
      exact HP.out
set_option maxRecDepth 100000 in
set_option maxHeartbeats 3200000 in
theorem great35C (A : Option Addr) (n c : Nat) (es : List ND) (B : Nat) (w : World) (h : Nodes w B A n es) (hB : B ≤ w.heap.size) (hn : n ≤ 1000000) (at_ : Nat) (e : ND) (he : es[at_]? = some e) (A2 : Option Addr) (c2 : Nat) (l : List Nat) (hk : KidsOK w n A2 c2 l) (hk0 : e.kind = 35) (fl : Int) (hf : e.flag = fl) (q1 : (bits BinOp.and IntKind.i64 fl 3 == 2) = true) (q2 : (bits BinOp.and IntKind.i64 fl 8 == 0) = true) (hE : exprF fl = true) :
    Calls Try.prog 31 #[.slice A n c, .int .i64 at_, .slice A2 l.length c2] w (BPost (P35 es fl l) w) := by
  have hat : at_ < n := by have := (List.getElem?_eq_some_iff.1 he).1; rw [h.1] at this; exact this
  have HL := Lib.hid hk.2.2.1
  have hc2 := hk.2.2.2
  obtain ⟨b, o, e', rfl, hbb, hek, c0, c1, cx, c3, c4⟩ := h.at_ hat
  rw [he] at hek
  cases hek
  rw [hk0] at c0
  rw [hf] at c3
  clear hf
  have hbx := Blk.new w 26 #[.int .i64 35, .int .i64 e.op, .string e.text, .int .i64 fl, .int .i64 e.size]
  have HB0 := Lib.hid (show Below w.heap.size w (w.alloc (.cells #[.int .i64 35, .int .i64 e.op, .string e.text, .int .i64 fl, .int .i64 e.size] 26)) from belowS_alloc (Below.refl _ _) _)
  obtain ⟨W1, hW1⟩ : ∃ W1, w.alloc (.cells #[.int .i64 35, .int .i64 e.op, .string e.text, .int .i64 fl, .int .i64 e.size] 26) = W1 := ⟨_, rfl⟩
  rw [hW1] at hbx HB0
  have x0 := hbx.cell 0
  have x1 := hbx.cell 1
  have x3 := hbx.cell 3
  simp only [List.getElem?_toArray, List.getElem?_cons_zero, List.getElem?_cons_succ] at x0 x1 x3
  have HH := Lib.hid (h.below HB0.out hB)
  have HK := Lib.hid (hk.below HB0.out)
  have hBW : B ≤ W1.heap.size := Nat.le_trans hB HB0.out.size
  have HE := Lib.hid he
  have hs0 : w.heap.size < W1.heap.size := hbx.lt
  clear h hk he hbx
  by_cases h2 : l.length = 2
  · obtain ⟨x, a, rfl⟩ : ∃ x a, l = [x, a] := by
      match l, h2 with
      | [x, a], _ => exact ⟨x, a, rfl⟩
    obtain ⟨g, off, rfl, hgl0, hcx, hxn⟩ := HK.out.cell (j := 0) (k := x) rfl
    obtain ⟨g2, off2, hA2, hgl, hca, han⟩ := HK.out.cell (j := 1) (k := a) rfl
    cases hA2
    simp only [Nat.add_zero] at hcx
    have K1 := Lib.hid (expr_any (some ⟨b, o, none⟩) n c es B W1 HH.out x hxn (by omega))
    rw [show ([x, a] : List Nat).length = 2 from rfl] at hc2 ⊢
    clear h2
    have hcc : (1 : Int) ≤ (c2 : Int) := by omega
    have hc1 : 1 < c2 := by omega
    have HEX := Lib.hid hE
    clear hE
    go_enter Try.func31, Try.ntmps31
    go_wp2_with fail
    refine K1.out.mono ?_
    rintro e0 w2 ⟨⟨b0, rfl, hb0⟩, hw0⟩
    have HBP := Lib.hid hw0
    have HBP0 := Lib.hid (HB0.out.trans (hw0.mono HB0.out.size))
    cases b0
    · clear hb0 hw0
      go_wp2_with fail
      go_ret
      exact BPost.ret rfl (fun h => by cases h) HBP0.out
    · have HX0 := Lib.hid (hb0 (by trivial))
      have y3 := (hw0.cell (p := ⟨w.heap.size, 3, none⟩) (by show w.heap.size < _; exact hs0)).trans x3
      have HB1 := Lib.hid (show Below w2.heap.size w2 (w2.alloc (.cells #[.int .i64 33] 3)) from belowS_alloc (Below.refl _ _) _)
      have K := Lib.hid (kinds_any (some ⟨b, o, none⟩) n c es B (w2.alloc (.cells #[.int .i64 33] 3)) (HH.out.below (HBP.out.trans (HB1.out.mono HBP.out.size)) hBW) (Nat.le_trans (Nat.le_trans hBW HBP.out.size) HB1.out.size) hn (some ⟨g, off + 1, none⟩) (c2 - 1) [] (.inl rfl) (fun k hk => by cases hk) (by simp) (some ⟨w2.heap.size, 0, none⟩) 1 [33] (KS.new w2 _ _ rfl) (by simp))
      clear hb0 hw0
      go_wp2_with fail
      refine K.out.mono ?_
      rintro e1 w3 ⟨⟨b1, rfl, hb1⟩, hw1⟩
      have HBX := Lib.hid (HBP.out.trans (HB1.out.trans (hw1.mono HB1.out.size) |>.mono HBP.out.size))
      have HB2 := Lib.hid (HB0.out.trans (HBX.out.mono HB0.out.size))
      cases b1
      · clear hb1 hw1
        go_wp2_with fail
        go_ret
        exact BPost.ret rfl (fun h => by cases h) HB2.out
      · have HKD := Lib.hid (hb1 (by trivial))
        have hca1 := (HBX.out.cell (p := ⟨g, off + 1, none⟩) hgl).trans hca
        have K2 := Lib.hid (expr_any (some ⟨b, o, none⟩) n c es B w3 (HH.out.below HBX.out hBW) a han (by omega))
        clear hb1 hw1
        go_wp2_with fail
        refine K2.out.mono ?_
        rintro e2 w4 hp
        have HP := Lib.hid ((hp.from_ HB2.out).imp (Q := P35 es fl [x, a]) fun hx => ⟨[x], [], a, rfl, fun _ => ⟨x, rfl, HX0.out⟩, fun h => (by rw [HEX.out] at h; cases h), fun _ => rfl, (fun k hk => by cases hk), hx⟩)
        obtain ⟨⟨b2, rfl, -⟩, -⟩ := hp
        go_wp2_with fail
        go_ret
        exact HP.out
  · have q3 : ((l.length : Int) != 2) = true := by simp; omega
    by_cases h0 : l.length < 2
    · have q4 : ((l.length : Int) < 2) := by omega
      clear h0 h2
      go_enter Try.func31, Try.ntmps31
      go_wp2_with fail
      go_ret
      exact BPost.ret rfl (fun h => by cases h) HB0.out
    · have q4 : ¬ ((l.length : Int) < 2) := by omega
      obtain ⟨x, r, rfl⟩ : ∃ x r, l = x :: r := by
        cases l with
        | nil => simp at h0
        | cons x r => exact ⟨x, r, rfl⟩
      obtain ⟨g, off, rfl, hgl0, hcx, hxn⟩ := HK.out.cell (j := 0) (k := x) rfl
      simp only [Nat.add_zero] at hcx
      have K1 := Lib.hid (expr_any (some ⟨b, o, none⟩) n c es B W1 HH.out x hxn (by omega))
      have hpos : (0 : Int) < ((x :: r).length : Int) := by omega
      generalize (x :: r).length = m at *
      clear h0 h2
      go_enter Try.func31, Try.ntmps31
      go_wp2_with fail
      refine K1.out.mono ?_
      rintro e0 w2 ⟨⟨b0, rfl, hb0⟩, hw0⟩
      have HBP0 := Lib.hid (HB0.out.trans (hw0.mono HB0.out.size))
      have y3 := (hw0.cell (p := ⟨w.heap.size, 3, none⟩) (by show w.heap.size < _; exact hs0)).trans x3
      clear hb0 hw0
      cases b0
      all_goals
        go_wp2_with fail
        go_ret
        exact BPost.ret rfl (fun h => by cases h) HBP0.out
set_option maxRecDepth 100000 in
set_option maxHeartbeats 3200000 in
theorem great35D (A : Option Addr) (n c : Nat) (es : List ND) (B : Nat) (w : World) (h : Nodes w B A n es) (hB : B ≤ w.heap.size) (hn : n ≤ 1000000) (at_ : Nat) (e : ND) (he : es[at_]? = some e) (A2 : Option Addr) (c2 : Nat) (l : List Nat) (hk : KidsOK w n A2 c2 l) (hk0 : e.kind = 35) (fl : Int) (hf : e.flag = fl) (q1 : (bits BinOp.and IntKind.i64 fl 3 == 2) = true) (q2 : (bits BinOp.and IntKind.i64 fl 8 == 0) = false) (hE : exprF fl = true) (h8 : ¬ fl < 8) :
    Calls Try.prog 31 #[.slice A n c, .int .i64 at_, .slice A2 l.length c2] w (BPost (P35 es fl l) w) := by
  have hat : at_ < n := by have := (List.getElem?_eq_some_iff.1 he).1; rw [h.1] at this; exact this
  have HL := Lib.hid hk.2.2.1
  have hc2 := hk.2.2.2
  obtain ⟨b, o, e', rfl, hbb, hek, c0, c1, cx, c3, c4⟩ := h.at_ hat
  rw [he] at hek
  cases hek
  rw [hk0] at c0
  rw [hf] at c3
  clear hf
  have hbx := Blk.new w 26 #[.int .i64 35, .int .i64 e.op, .string e.text, .int .i64 fl, .int .i64 e.size]
  have HB0 := Lib.hid (show Below w.heap.size w (w.alloc (.cells #[.int .i64 35, .int .i64 e.op, .string e.text, .int .i64 fl, .int .i64 e.size] 26)) from belowS_alloc (Below.refl _ _) _)
  obtain ⟨W1, hW1⟩ : ∃ W1, w.alloc (.cells #[.int .i64 35, .int .i64 e.op, .string e.text, .int .i64 fl, .int .i64 e.size] 26) = W1 := ⟨_, rfl⟩
  rw [hW1] at hbx HB0
  have x0 := hbx.cell 0
  have x1 := hbx.cell 1
  have x3 := hbx.cell 3
  simp only [List.getElem?_toArray, List.getElem?_cons_zero, List.getElem?_cons_succ] at x0 x1 x3
  have HH := Lib.hid (h.below HB0.out hB)
  have HK := Lib.hid (hk.below HB0.out)
  have hBW : B ≤ W1.heap.size := Nat.le_trans hB HB0.out.size
  have HE := Lib.hid he
  have hs0 : w.heap.size < W1.heap.size := hbx.lt
  clear h hk he hbx
  cases l with
  | nil =>
    go_enter Try.func31, Try.ntmps31
    go_wp2_with fail
    go_ret
    exact BPost.ret rfl (fun h => by cases h) HB0.out
  | cons x l =>
  by_cases hl0 : l = []
  · subst hl0
    rw [show ([x] : List Nat).length = 1 from rfl]
    go_enter Try.func31, Try.ntmps31
    go_wp2_with fail
    go_ret
    exact BPost.ret rfl (fun h => by cases h) HB0.out
  · obtain ⟨r, a, rfl⟩ := snoc_of hl0
    obtain ⟨g, off, rfl, hgl0, hcx, hxn⟩ := HK.out.cell (j := 0) (k := x) rfl
    simp only [Nat.add_zero] at hcx
    have HKT := Lib.hid HK.out.tail
    have hlen : (x :: (r ++ [a])).length = r.length + 2 := by simp
    obtain ⟨g2, off2, hA2, hgl, hca, han⟩ := HK.out.cell (j := r.length + 1) (k := a) (by simp)
    cases hA2
    have HK1 := Lib.hid HKT.out.take
    have HLr := Lib.hid HK1.out.2.2.1
    have hrc : r.length ≤ c2 - 1 := HK1.out.2.2.2
    have wr1 : IntKind.i64.wrap (((r.length + 2 : Nat) : Int) - 1) = (r.length : Int) + 1 := by rw [IntWalk.i64_in _ (by have := HLr.out; omega)]; omega
    have wr2 : IntKind.i64.wrap ((r.length : Int) + 2 - 1) = (r.length : Int) + 1 := by rw [IntWalk.i64_in _ (by have := HLr.out; omega)]; omega
    have hrm : r.length ≤ 1000000 := HLr.out
    have hr0 : (0 : Int) ≤ (r.length : Int) := by omega
    rw [hlen] at hc2 ⊢
    have hc1 : 1 < c2 := by omega
    have hcc : (r.length : Int) + 1 ≤ (c2 : Int) := by omega
    have q3 : ¬ ((r.length : Int) + 2 < 2) := by omega
    have K1 := Lib.hid (expr_any (some ⟨b, o, none⟩) n c es B W1 HH.out x hxn (by omega))
    have HEX := Lib.hid hE
    have H8 := Lib.hid h8
    clear hE h8 hl0
    go_enter Try.func31, Try.ntmps31
    go_wp2_with fail
    refine K1.out.mono ?_
    rintro e0 w2 ⟨⟨b0, rfl, hb0⟩, hw0⟩
    have HBP := Lib.hid hw0
    have HBP0 := Lib.hid (HB0.out.trans (hw0.mono HB0.out.size))
    cases b0
    · clear hb0 hw0
      go_wp2_with fail
      go_ret
      exact BPost.ret rfl (fun h => by cases h) HBP0.out
    · have HX0 := Lib.hid (hb0 (by trivial))
      have y3 := (hw0.cell (p := ⟨w.heap.size, 3, none⟩) (by show w.heap.size < _; exact hs0)).trans x3
      have HB1 := Lib.hid (show Below w2.heap.size w2 (w2.alloc (.cells #[.int .i64 33] 3)) from belowS_alloc (Below.refl _ _) _)
      have K := Lib.hid (kinds_any (some ⟨b, o, none⟩) n c es B (w2.alloc (.cells #[.int .i64 33] 3)) (HH.out.below (HBP.out.trans (HB1.out.mono HBP.out.size)) hBW) (Nat.le_trans (Nat.le_trans hBW HBP.out.size) HB1.out.size) hn (some ⟨g, off + 1, none⟩) (c2 - 1) r (HK1.out.1.below (HBP.out.trans (HB1.out.mono HBP.out.size))) HK1.out.2.1 HLr.out (some ⟨w2.heap.size, 0, none⟩) 1 [33] (KS.new w2 _ _ rfl) (by simp))
      clear hb0 hw0
      go_wp2_with fail
      refine K.out.mono ?_
      rintro e1 w3 ⟨⟨b1, rfl, hb1⟩, hw1⟩
      have HBX := Lib.hid (HBP.out.trans (HB1.out.trans (hw1.mono HB1.out.size) |>.mono HBP.out.size))
      have HB2 := Lib.hid (HB0.out.trans (HBX.out.mono HB0.out.size))
      cases b1
      · clear hb1 hw1
        go_wp2_with fail
        go_ret
        exact BPost.ret rfl (fun h => by cases h) HB2.out
      · have HKD := Lib.hid (hb1 (by trivial))
        have hca1 := (HBX.out.cell (p := ⟨g, off + (r.length + 1), none⟩) hgl).trans hca
        have K2 := Lib.hid (expr_any (some ⟨b, o, none⟩) n c es B w3 (HH.out.below HBX.out hBW) a han (by omega))
        clear hb1 hw1
        go_wp2_with fail
        refine K2.out.mono ?_
        rintro e2 w4 hp
        have HP := Lib.hid ((hp.from_ HB2.out).imp (Q := P35 es fl (x :: (r ++ [a]))) fun hx => ⟨[x], r, a, rfl, fun _ => ⟨x, rfl, HX0.out⟩, fun h => (by rw [HEX.out] at h; cases h), fun h => absurd h (by have := H8.out; omega), HKD.out, hx⟩)
        obtain ⟨⟨b2, rfl, -⟩, -⟩ := hp
        go_wp2_with fail
        go_ret
        exact HP.out
theorem great35 (A : Option Addr) (n c : Nat) (es : List ND) (B : Nat) (w : World) (h : Nodes w B A n es) (hB : B ≤ w.heap.size) (hn : n ≤ 1000000) (at_ : Nat) (e : ND) (he : es[at_]? = some e) (A2 : Option Addr) (c2 : Nat) (l : List Nat) (hk : KidsOK w n A2 c2 l) (hk0 : e.kind = 35) (hf : FlagF e.flag) :
    Calls Try.prog 31 #[.slice A n c, .int .i64 at_, .slice A2 l.length c2] w (BPost (P35 es e.flag l) w) := by
  rcases hf with hf | hf | hf | hf | hf | hf | hf | hf | hf
  · rw [hf]
    exact great35A A n c es B w h hB hn at_ e he A2 c2 l hk hk0 0 hf (by decide) (by decide) (by decide)
  · rw [hf]
    exact great35A A n c es B w h hB hn at_ e he A2 c2 l hk hk0 1 hf (by decide) (by decide) (by decide)
  · rw [hf]
    exact great35C A n c es B w h hB hn at_ e he A2 c2 l hk hk0 2 hf (by decide) (by decide) (by decide)
  · rw [hf]
    exact great35A A n c es B w h hB hn at_ e he A2 c2 l hk hk0 4 hf (by decide) (by decide) (by decide)
  · rw [hf]
    exact great35A A n c es B w h hB hn at_ e he A2 c2 l hk hk0 5 hf (by decide) (by decide) (by decide)
  · rw [hf]
    exact great35C A n c es B w h hB hn at_ e he A2 c2 l hk hk0 6 hf (by decide) (by decide) (by decide)
  · rw [hf]
    exact great35B A n c es B w h hB hn at_ e he A2 c2 l hk hk0 8 hf (by decide) (by decide) (by decide) (by decide)
  · rw [hf]
    exact great35B A n c es B w h hB hn at_ e he A2 c2 l hk hk0 9 hf (by decide) (by decide) (by decide) (by decide)
  · rw [hf]
    exact great35D A n c es B w h hB hn at_ e he A2 c2 l hk hk0 10 hf (by decide) (by decide) (by decide) (by decide)
/-- Any node with kids of several sorts. -/
theorem great_any (A : Option Addr) (n c : Nat) (es : List ND) (B : Nat) (w : World) (h : Nodes w B A n es) (hB : B ≤ w.heap.size) (hn : n ≤ 1000000) (at_ : Nat) (e : ND) (he : es[at_]? = some e) (A2 : Option Addr) (c2 : Nat) (l : List Nat) (hk : KidsOK w n A2 c2 l) (hf32 : e.kind = 32 → e.flag = 0 ∨ e.flag = 1) (hf35 : e.kind = 35 → FlagF e.flag) :
    Calls Try.prog 31 #[.slice A n c, .int .i64 at_, .slice A2 l.length c2] w (BPost (GreatP es e l) w) := by
  by_cases h17 : e.kind = 17
  · exact (great17 A n c es B w h hB hn at_ e he A2 c2 l hk h17).mono fun _ _ hp => hp.imp fun hx => by unfold GreatP; simp only [h17]; simpa using hx
  by_cases h29 : e.kind = 29
  · exact (great29 A n c es B w h hB hn at_ e he A2 c2 l hk h29).mono fun _ _ hp => hp.imp fun hx => by unfold GreatP; simp only [h29]; simpa using hx
  by_cases h12 : e.kind = 12
  · exact (great12 A n c es B w h hB hn at_ e he A2 c2 l hk h12).mono fun _ _ hp => hp.imp fun hx => by unfold GreatP; simp only [h12]; simpa using hx
  by_cases h13 : e.kind = 13
  · exact (great13 A n c es B w h hB hn at_ e he A2 c2 l hk h13).mono fun _ _ hp => hp.imp fun hx => by unfold GreatP; simp only [h13]; simpa using hx
  by_cases h14 : e.kind = 14
  · exact (great14 A n c es B w h hB hn at_ e he A2 c2 l hk h14).mono fun _ _ hp => hp.imp fun hx => by unfold GreatP; simp only [h14]; simpa using hx
  by_cases h19 : e.kind = 19
  · exact (great19 A n c es B w h hB hn at_ e he A2 c2 l hk h19).mono fun _ _ hp => hp.imp fun hx => by unfold GreatP; simp only [h19]; simpa using hx
  by_cases h32 : e.kind = 32
  · exact (great32 A n c es B w h hB hn at_ e he A2 c2 l hk h32 (hf32 h32)).mono fun _ _ hp => hp.imp fun hx => by unfold GreatP; simp only [h32]; simpa using hx
  by_cases h20 : e.kind = 20
  · exact (great20 A n c es B w h hB hn at_ e he A2 c2 l hk h20).mono fun _ _ hp => hp.imp fun hx => by unfold GreatP; simp only [h20]; simpa using hx
  by_cases h18 : e.kind = 18
  · exact (great18 A n c es B w h hB hn at_ e he A2 c2 l hk h18).mono fun _ _ hp => hp.imp fun hx => by unfold GreatP; simp only [h18]; simpa using hx
  by_cases h35 : e.kind = 35
  · exact (great35 A n c es B w h hB hn at_ e he A2 c2 l hk h35 (hf35 h35)).mono fun _ _ hp => hp.imp fun hx => by unfold GreatP; simp only [h35]; simpa using hx
  exact (greatOther A n c es B w h hB hn at_ e he A2 c2 l hk ⟨h17, h29, h12, h13, h14, h19, h32, h20, h18, h35⟩).mono fun _ _ hp => hp.imp fun hx => hx.elim
end Go.Proofs.Ytdhhdnopilfifaa
