/-
  shapedGreat: the other kinds, and all of them. (Printed by wip/gen_great2.py.)
-/
import Derived.Test.YtdhhdnopilfifaaPrGreat
namespace Go.Proofs.Ytdhhdnopilfifaa
open Go.RowKit

set_option maxRecDepth 100000 in
set_option maxHeartbeats 3200000 in
theorem great12 (A : Option Addr) (n c : Nat) (es : List ND) (B : Nat) (w : World) (h : Nodes w B A n es) (hB : B ≤ w.heap.size) (hn : n ≤ 1000000) (at_ : Nat) (e : ND) (he : es[at_]? = some e) (A2 : Option Addr) (c2 : Nat) (l : List Nat) (hk : KidsOK w n A2 c2 l) (hk0 : e.kind = 12) :
    Calls Try.prog 31 #[.slice A n c, .int .i64 at_, .slice A2 l.length c2] w (BPost (P12 es l) w) := by
  have hat : at_ < n := by have := (List.getElem?_eq_some_iff.1 he).1; rw [h.1] at this; exact this
  have HL := Lib.hid hk.2.2.1
  have hc2 := hk.2.2.2
  obtain ⟨b, o, e', rfl, hbb, hek, c0, c1, cx, c3, c4⟩ := h.at_ hat
  rw [he] at hek
  cases hek
  rw [hk0] at c0
  have hbx := Blk.new w 26 #[.int .i64 12, .int .i64 e.op, .string e.text, .int .i64 e.flag, .int .i64 e.size]
  have HB0 := Lib.hid (show Below w.heap.size w (w.alloc (.cells #[.int .i64 12, .int .i64 e.op, .string e.text, .int .i64 e.flag, .int .i64 e.size] 26)) from belowS_alloc (Below.refl _ _) _)
  obtain ⟨W1, hW1⟩ : ∃ W1, w.alloc (.cells #[.int .i64 12, .int .i64 e.op, .string e.text, .int .i64 e.flag, .int .i64 e.size] 26) = W1 := ⟨_, rfl⟩
  rw [hW1] at hbx HB0
  have x0 := hbx.cell 0
  have x1 := hbx.cell 1
  have x3 := hbx.cell 3
  simp only [List.getElem?_toArray, List.getElem?_cons_zero, List.getElem?_cons_succ] at x0 x1 x3
  have HH := Lib.hid (h.below HB0.out hB)
  have HK := Lib.hid (hk.below HB0.out)
  have hBW : B ≤ W1.heap.size := Nat.le_trans hB HB0.out.size
  have HE := Lib.hid he
  have hs0 : w.heap.size < W1.heap.size := hbx.lt
  clear h hk he hbx
  cases l with
  | nil =>
    go_enter Try.func31, Try.ntmps31
    go_wp2_with fail
    go_ret
    exact BPost.ret rfl (fun h => by cases h) HB0.out
  | cons a r =>
    obtain ⟨g, off, rfl, hgl, hca, han⟩ := HK.out.cell (j := 0) (k := a) rfl
    simp only [Nat.add_zero] at hca
    have hlen : (a :: r).length = r.length + 1 := rfl
    have HKT := Lib.hid HK.out.tail
    have HLr := Lib.hid HKT.out.2.2.1
    rw [hlen] at hc2 ⊢
    have K1 := Lib.hid (expr_any (some ⟨b, o, none⟩) n c es B W1 HH.out a han (by omega))
    cases r with
    | nil =>
      go_enter Try.func31, Try.ntmps31
      go_wp2_with fail
      go_ret
      exact BPost.ret rfl (fun h => by cases h) HB0.out
    | cons x r =>
      have hlen2 : (x :: r).length = r.length + 1 := rfl
      rw [hlen2] at hc2 hlen ⊢
      have z1 : (2 : Int) ≤ ((r.length + 1 + 1 : Nat) : Int) := by omega
      have z2 : (2 : Int) ≤ (r.length : Int) + 1 + 1 := by omega
      have z3 : 1 < c2 := by omega
      have z4 : (1 : Int) ≤ (c2 : Int) := by omega
      have z5 : (r.length : Int) + 1 + 1 ≤ (c2 : Int) := by omega
      go_enter Try.func31, Try.ntmps31
      go_wp2_with fail
      refine K1.out.mono ?_
      rintro e1 w1 ⟨⟨b1, rfl, hb1⟩, hw1⟩
      have HB2 := Lib.hid (HB0.out.trans (hw1.mono HB0.out.size))
      have HBX := Lib.hid hw1
      cases b1
      · clear hb1 hw1
        go_wp2_with fail
        go_ret
        exact BPost.ret rfl (fun h => by cases h) HB2.out
      · have HX := Lib.hid (hb1 (by trivial))
        have K2 := Lib.hid (fun (c4 : Nat) => specs_any (some ⟨b, o, none⟩) n c es B w1 (HH.out.below HBX.out hBW) (Nat.le_trans hBW HBX.out.size) hn (some ⟨g, off + 1, none⟩) c4 (x :: r) (HKT.out.1.below HBX.out) HKT.out.2.1 HLr.out)
        clear hb1 hw1
        rw [hlen2] at K2
        go_wp2_with fail
        refine (K2.out _).mono ?_
        rintro e2 w2 hp
        have HP := Lib.hid ((hp.from_ HB2.out).imp (Q := P12 es (a :: (x :: r))) fun hx => ⟨a, _, rfl, HX.out, hx⟩)
        obtain ⟨⟨b2, rfl, -⟩, -⟩ := hp
        go_wp2_with fail
        go_ret
        exact HP.out
set_option maxRecDepth 100000 in
set_option maxHeartbeats 3200000 in
theorem great18 (A : Option Addr) (n c : Nat) (es : List ND) (B : Nat) (w : World) (h : Nodes w B A n es) (hB : B ≤ w.heap.size) (hn : n ≤ 1000000) (at_ : Nat) (e : ND) (he : es[at_]? = some e) (A2 : Option Addr) (c2 : Nat) (l : List Nat) (hk : KidsOK w n A2 c2 l) (hk0 : e.kind = 18) :
    Calls Try.prog 31 #[.slice A n c, .int .i64 at_, .slice A2 l.length c2] w (BPost (P18 es l) w) := by
  have hat : at_ < n := by have := (List.getElem?_eq_some_iff.1 he).1; rw [h.1] at this; exact this
  have HL := Lib.hid hk.2.2.1
  have hc2 := hk.2.2.2
  obtain ⟨b, o, e', rfl, hbb, hek, c0, c1, cx, c3, c4⟩ := h.at_ hat
  rw [he] at hek
  cases hek
  rw [hk0] at c0
  have hbx := Blk.new w 26 #[.int .i64 18, .int .i64 e.op, .string e.text, .int .i64 e.flag, .int .i64 e.size]
  have HB0 := Lib.hid (show Below w.heap.size w (w.alloc (.cells #[.int .i64 18, .int .i64 e.op, .string e.text, .int .i64 e.flag, .int .i64 e.size] 26)) from belowS_alloc (Below.refl _ _) _)
  obtain ⟨W1, hW1⟩ : ∃ W1, w.alloc (.cells #[.int .i64 18, .int .i64 e.op, .string e.text, .int .i64 e.flag, .int .i64 e.size] 26) = W1 := ⟨_, rfl⟩
  rw [hW1] at hbx HB0
  have x0 := hbx.cell 0
  have x1 := hbx.cell 1
  have x3 := hbx.cell 3
  simp only [List.getElem?_toArray, List.getElem?_cons_zero, List.getElem?_cons_succ] at x0 x1 x3
  have HH := Lib.hid (h.below HB0.out hB)
  have HK := Lib.hid (hk.below HB0.out)
  have hBW : B ≤ W1.heap.size := Nat.le_trans hB HB0.out.size
  have HE := Lib.hid he
  have hs0 : w.heap.size < W1.heap.size := hbx.lt
  clear h hk he hbx
  cases l with
  | nil =>
    go_enter Try.func31, Try.ntmps31
    go_wp2_with fail
    go_ret
    exact BPost.ret rfl (fun h => by cases h) HB0.out
  | cons a r =>
    obtain ⟨g, off, rfl, hgl, hca, han⟩ := HK.out.cell (j := 0) (k := a) rfl
    simp only [Nat.add_zero] at hca
    have hlen : (a :: r).length = r.length + 1 := rfl
    have HKT := Lib.hid HK.out.tail
    have HLr := Lib.hid HKT.out.2.2.1
    rw [hlen] at hc2 ⊢
    have K1 := Lib.hid (expr_any (some ⟨b, o, none⟩) n c es B W1 HH.out a han (by omega))
    have z1 : (1 : Int) ≤ ((r.length + 1 : Nat) : Int) := by omega
    have z2 : (1 : Int) ≤ (r.length : Int) + 1 := by omega
    have z4 : (1 : Int) ≤ (c2 : Int) := by omega
    have z5 : (r.length : Int) + 1 ≤ (c2 : Int) := by omega
    have h0c : r = [] ∨ 1 < c2 := by
      cases r with
      | nil => exact .inl rfl
      | cons x r => right; simp only [List.length_cons] at hc2; omega
    go_enter Try.func31, Try.ntmps31
    go_wp2_with fail
    refine K1.out.mono ?_
    rintro e1 w1 ⟨⟨b1, rfl, hb1⟩, hw1⟩
    have HB2 := Lib.hid (HB0.out.trans (hw1.mono HB0.out.size))
    have HBX := Lib.hid hw1
    cases b1
    · clear hb1 hw1
      go_wp2_with fail
      go_ret
      exact BPost.ret rfl (fun h => by cases h) HB2.out
    · have HX := Lib.hid (hb1 (by trivial))
      have K2 := Lib.hid (fun (c4 : Nat) => args_any (some ⟨b, o, none⟩) n c es B w1 (HH.out.below HBX.out hBW) (Nat.le_trans hBW HBX.out.size) hn (some ⟨g, off + 1, none⟩) c4 r (HKT.out.1.below HBX.out) HKT.out.2.1 HLr.out)
      have K3 := Lib.hid (fun (A4 : Option Addr) (c4 : Nat) => args_any (some ⟨b, o, none⟩) n c es B w1 (HH.out.below HBX.out hBW) (Nat.le_trans hBW HBX.out.size) hn A4 c4 [] (.inl rfl) (fun k hk => by cases hk) (by simp))
      rcases h0c with rfl | z3
      · clear hb1 hw1
        simp only [List.length_nil] at *
        go_wp2_with fail
        all_goals
          refine (K3.out _ _).mono ?_
          rintro e2 w2 hp
          have HP := Lib.hid ((hp.from_ HB2.out).imp (Q := P18 es (a :: [])) fun hx => ⟨a, _, rfl, HX.out, hx⟩)
          obtain ⟨⟨b2, rfl, -⟩, -⟩ := hp
          go_wp2_with fail
          go_ret
          exact HP.out
      · clear hb1 hw1
        go_wp2_with fail
        refine (K2.out _).mono ?_
        rintro e2 w2 hp
        have HP := Lib.hid ((hp.from_ HB2.out).imp (Q := P18 es (a :: r)) fun hx => ⟨a, _, rfl, HX.out, hx⟩)
        obtain ⟨⟨b2, rfl, -⟩, -⟩ := hp
        go_wp2_with fail
        go_ret
        exact HP.out
set_option maxRecDepth 100000 in
set_option maxHeartbeats 3200000 in
theorem great29 (A : Option Addr) (n c : Nat) (es : List ND) (B : Nat) (w : World) (h : Nodes w B A n es) (hB : B ≤ w.heap.size) (hn : n ≤ 1000000) (at_ : Nat) (e : ND) (he : es[at_]? = some e) (A2 : Option Addr) (c2 : Nat) (l : List Nat) (hk : KidsOK w n A2 c2 l) (hk0 : e.kind = 29) :
    Calls Try.prog 31 #[.slice A n c, .int .i64 at_, .slice A2 l.length c2] w (BPost (P29 es l) w) := by
  have hat : at_ < n := by have := (List.getElem?_eq_some_iff.1 he).1; rw [h.1] at this; exact this
  have HL := Lib.hid hk.2.2.1
  have hc2 := hk.2.2.2
  obtain ⟨b, o, e', rfl, hbb, hek, c0, c1, cx, c3, c4⟩ := h.at_ hat
  rw [he] at hek
  cases hek
  rw [hk0] at c0
  have hbx := Blk.new w 26 #[.int .i64 29, .int .i64 e.op, .string e.text, .int .i64 e.flag, .int .i64 e.size]
  have HB0 := Lib.hid (show Below w.heap.size w (w.alloc (.cells #[.int .i64 29, .int .i64 e.op, .string e.text, .int .i64 e.flag, .int .i64 e.size] 26)) from belowS_alloc (Below.refl _ _) _)
  obtain ⟨W1, hW1⟩ : ∃ W1, w.alloc (.cells #[.int .i64 29, .int .i64 e.op, .string e.text, .int .i64 e.flag, .int .i64 e.size] 26) = W1 := ⟨_, rfl⟩
  rw [hW1] at hbx HB0
  have x0 := hbx.cell 0
  have x1 := hbx.cell 1
  have x3 := hbx.cell 3
  simp only [List.getElem?_toArray, List.getElem?_cons_zero, List.getElem?_cons_succ] at x0 x1 x3
  have HH := Lib.hid (h.below HB0.out hB)
  have HK := Lib.hid (hk.below HB0.out)
  have hBW : B ≤ W1.heap.size := Nat.le_trans hB HB0.out.size
  have HE := Lib.hid he
  have hs0 : w.heap.size < W1.heap.size := hbx.lt
  clear h hk he hbx
  by_cases h2 : l.length = 2
  · obtain ⟨a, x, rfl⟩ : ∃ a x, l = [a, x] := by
      cases l with
      | nil => cases h2
      | cons a r => cases r with
        | nil => simp at h2
        | cons x r => cases r with
          | nil => exact ⟨a, x, rfl⟩
          | cons y r => simp at h2
    obtain ⟨g, off, rfl, hgl, hca, han⟩ := HK.out.cell (j := 0) (k := a) rfl
    obtain ⟨g2, off2, hA2, -, hcx, hxn⟩ := HK.out.cell (j := 1) (k := x) rfl
    cases hA2
    simp only [Nat.add_zero] at hca
    obtain ⟨b', o', ex, hA, hbb', hex, d0, -⟩ := HH.out.at_ hxn
    cases hA
    have HEX := Lib.hid hex
    have K1 := Lib.hid (expr_any (some ⟨b, o, none⟩) n c es B W1 HH.out a han (by omega))
    clear h2 hex
    rw [show ([a, x] : List Nat).length = 2 from rfl]
    go_enter Try.func31, Try.ntmps31
    go_wp2_with fail
    refine K1.out.mono ?_
    rintro e1 w1 ⟨⟨b1, rfl, hb1⟩, hw1⟩
    have HB2 := Lib.hid (HB0.out.trans (hw1.mono HB0.out.size))
    cases b1
    · clear hb1 hw1
      go_wp2_with fail
      go_ret
      exact BPost.ret rfl (fun h => by cases h) HB2.out
    · have HX := Lib.hid (hb1 (by trivial))
      have hcx1 := (hw1.cell (p := ⟨g, off + 1, none⟩) hgl).trans hcx
      have d01 := (hw1.cell (p := ⟨b, o + x * 5, none⟩) (by show b < _; omega)).trans d0
      clear hb1 hw1
      cases hq : (ex.kind == 13)
      · generalize ex.kind = ek at *
        go_wp2_with fail
        go_ret
        exact BPost.ret rfl (fun h => by cases h) HB2.out
      · have HKD : Hid (Kd es [13] x) := Lib.hid ⟨ex, HEX.out, by rw [show ex.kind = 13 by simpa using hq]; simp⟩
        generalize ex.kind = ek at *
        go_wp2_with fail
        go_ret
        exact BPost.ret rfl (fun _ => ⟨a, x, rfl, HX.out, HKD.out⟩) HB2.out
  · have q1 : ((l.length : Int) == 2) = false := by simp; omega
    clear h2
    go_enter Try.func31, Try.ntmps31
    go_wp2_with fail
    go_ret
    exact BPost.ret rfl (fun h => by cases h) HB0.out
theorem four_of {l : List Nat} (h : l.length = 4) : ∃ a x y z, l = [a, x, y, z] := by
  match l, h with
  | [a, x, y, z], _ => exact ⟨a, x, y, z, rfl⟩
def ExN (es : List ND) (k : Nat) : Prop := Ex es k ∨ Kd es [31] k
set_option maxRecDepth 100000 in
set_option maxHeartbeats 3200000 in
theorem great17 (A : Option Addr) (n c : Nat) (es : List ND) (B : Nat) (w : World) (h : Nodes w B A n es) (hB : B ≤ w.heap.size) (hn : n ≤ 1000000) (at_ : Nat) (e : ND) (he : es[at_]? = some e) (A2 : Option Addr) (c2 : Nat) (l : List Nat) (hk : KidsOK w n A2 c2 l) (hk0 : e.kind = 17) :
    Calls Try.prog 31 #[.slice A n c, .int .i64 at_, .slice A2 l.length c2] w (BPost (P17 es l) w) := by
  have hat : at_ < n := by have := (List.getElem?_eq_some_iff.1 he).1; rw [h.1] at this; exact this
  have HL := Lib.hid hk.2.2.1
  have hc2 := hk.2.2.2
  obtain ⟨b, o, e', rfl, hbb, hek, c0, c1, cx, c3, c4⟩ := h.at_ hat
  rw [he] at hek
  cases hek
  rw [hk0] at c0
  have hbx := Blk.new w 26 #[.int .i64 17, .int .i64 e.op, .string e.text, .int .i64 e.flag, .int .i64 e.size]
  have HB0 := Lib.hid (show Below w.heap.size w (w.alloc (.cells #[.int .i64 17, .int .i64 e.op, .string e.text, .int .i64 e.flag, .int .i64 e.size] 26)) from belowS_alloc (Below.refl _ _) _)
  obtain ⟨W1, hW1⟩ : ∃ W1, w.alloc (.cells #[.int .i64 17, .int .i64 e.op, .string e.text, .int .i64 e.flag, .int .i64 e.size] 26) = W1 := ⟨_, rfl⟩
  rw [hW1] at hbx HB0
  have x0 := hbx.cell 0
  have x1 := hbx.cell 1
  have x3 := hbx.cell 3
  simp only [List.getElem?_toArray, List.getElem?_cons_zero, List.getElem?_cons_succ] at x0 x1 x3
  have HH := Lib.hid (h.below HB0.out hB)
  have HK := Lib.hid (hk.below HB0.out)
  have hBW : B ≤ W1.heap.size := Nat.le_trans hB HB0.out.size
  have HE := Lib.hid he
  have hs0 : w.heap.size < W1.heap.size := hbx.lt
  clear h hk he hbx
  by_cases h4 : l.length = 4
  · obtain ⟨a, x, y, z, hl4⟩ := four_of h4
    obtain ⟨g, off, rfl, hgl, hca, han⟩ := HK.out.cell (j := 0) (k := a) (by rw [hl4]; rfl)
    simp only [Nat.add_zero] at hca
    have K1 := Lib.hid (expr_any (some ⟨b, o, none⟩) n c es B W1 HH.out a han (by omega))
    have HL4 := Lib.hid hl4
    have HLE := Lib.hid h4
    rw [h4]
    clear hl4 h4
    go_enter Try.func31, Try.ntmps31
    go_wp2_with fail
    refine K1.out.mono ?_
    rintro e1 w1 ⟨⟨b1, rfl, hb1⟩, hw1⟩
    have HB1 := Lib.hid hw1
    cases b1
    · have HB2 := Lib.hid (HB0.out.trans (hw1.mono HB0.out.size))
      clear hb1 hw1
      go_wp2_with fail
      go_ret
      exact BPost.ret rfl (fun h => by cases h) HB2.out
    · have HX := Lib.hid (hb1 (by trivial))
      clear hb1 hw1
      go_wp2_with fail
      go_loopw [9] (fun t wr => ∃ j : Nat, 1 ≤ j ∧ j ≤ 4 ∧ t = .int .i64 j ∧ Hid (∀ (i k : Nat), 1 ≤ i → i < j → l[i]? = some k → ExN es k) ∧ Hid (Below W1.heap.size W1 wr)) (fun t _ => 4 - (intOf t).toNat)
      case atStart => exact ⟨1, by omega, by omega, rfl, Lib.hid (fun i k h1 h2 => by omega), HB1⟩
      case round =>
        obtain ⟨j, hj1, hj, rfl, HI, HB⟩ := hrel
        have HBW := Lib.hid (HB0.out.trans (HB.out.mono HB0.out.size))
        by_cases hlt : j < 4
        · have hjl : j < l.length := by rw [HLE.out]; exact hlt
          have hg := List.getElem?_eq_getElem hjl
          generalize l[j] = k at *
          obtain ⟨g2, off2, hA2, -, hck, hkn⟩ := (HK.out.below HB.out).cell hg
          cases hA2
          have hjz : (j : Int) < 4 := by omega
          obtain ⟨b', o', ek, hA, hbb', hek, d0, -⟩ := (HH.out.below HB.out hBW).at_ hkn
          cases hA
          have HEK := Lib.hid hek
          have HG := Lib.hid hg
          have K2 := Lib.hid (expr_any (some ⟨b, o, none⟩) n c es B wr (HH.out.below HB.out hBW) k hkn (by omega))
          have hwr := HB.out.size
          clear hg hek hjl
          have next : Hid (ExN es k → ∀ (i k : Nat), 1 ≤ i → i < j + 1 → l[i]? = some k → ExN es k) := Lib.hid (fun hx i k2 h1 h2 h3 => by
            rcases Nat.lt_or_ge i j with g | g
            · exact HI.out i k2 h1 g h3
            · obtain rfl : i = j := by omega
              have := HG.out.symm.trans h3
              cases this
              exact hx)
          go_wp2_with fail
          refine K2.out.mono ?_
          rintro e2 w2 ⟨⟨b2, rfl, hb2⟩, hw2⟩
          have HB2 := Lib.hid (HB.out.trans (hw2.mono HB.out.size))
          have HBW2 := Lib.hid (HBW.out.trans (hw2.mono HBW.out.size))
          cases b2
          · have hck2 := (hw2.cell (p := ⟨g, off + j, none⟩) (by show g < _; omega)).trans hck
            have d02 := (hw2.cell (p := ⟨b, o + k * 5, none⟩) (by show b < _; omega)).trans d0
            clear hb2 hw2
            cases hq : (ek.kind == 31)
            · have hq2 : (ek.kind != 31) = true := by rw [bne, hq]; rfl
              generalize ek.kind = kk at *
              go_wp2_with fail
              go_ret
              exact BPost.ret rfl (fun h => by cases h) HBW2.out
            · have hq2 : (ek.kind != 31) = false := by rw [bne, hq]; rfl
              have HN := Lib.hid (next.out (.inr ⟨ek, HEK.out, by rw [show ek.kind = 31 by simpa using hq]; simp⟩))
              generalize ek.kind = kk at *
              go_wp2_with fail
              go_roundw
              case rel => exact ⟨j + 1, by omega, by omega, by go_num, HN, HB2⟩
              case measure => simp [intOf]; omega
          · have HN := Lib.hid (next.out (.inl (hb2 (by trivial))))
            clear hb2 hw2
            go_wp2_with fail
            go_roundw
            case rel => exact ⟨j + 1, by omega, by omega, by go_num, HN, HB2⟩
            case measure => simp [intOf]; omega
        · obtain rfl : j = 4 := by omega
          go_wp2_with fail
          go_ret
          exact BPost.ret rfl (fun _ => ⟨a, x, y, z, HL4.out, HX.out, HI.out 1 x (by omega) (by omega) (by rw [HL4.out]; rfl), HI.out 2 y (by omega) (by omega) (by rw [HL4.out]; rfl), HI.out 3 z (by omega) (by omega) (by rw [HL4.out]; rfl)⟩) HBW.out
  · have q1 : ((l.length : Int) != 4) = true := by simp; omega
    clear h4
    go_enter Try.func31, Try.ntmps31
    go_wp2_with fail
    go_ret
    exact BPost.ret rfl (fun h => by cases h) HB0.out
set_option maxRecDepth 100000 in
set_option maxHeartbeats 3200000 in
theorem greatOther (A : Option Addr) (n c : Nat) (es : List ND) (B : Nat) (w : World) (h : Nodes w B A n es) (hB : B ≤ w.heap.size) (_hn : n ≤ 1000000) (at_ : Nat) (e : ND) (he : es[at_]? = some e) (A2 : Option Addr) (c2 : Nat) (l : List Nat) (hk : KidsOK w n A2 c2 l) (hk0 : e.kind ≠ 17 ∧ e.kind ≠ 29 ∧ e.kind ≠ 12 ∧ e.kind ≠ 13 ∧ e.kind ≠ 14 ∧ e.kind ≠ 19 ∧ e.kind ≠ 32 ∧ e.kind ≠ 20 ∧ e.kind ≠ 18 ∧ e.kind ≠ 35) :
    Calls Try.prog 31 #[.slice A n c, .int .i64 at_, .slice A2 l.length c2] w (BPost (False) w) := by
  have hat : at_ < n := by have := (List.getElem?_eq_some_iff.1 he).1; rw [h.1] at this; exact this
  have HL := Lib.hid hk.2.2.1
  have hc2 := hk.2.2.2
  obtain ⟨b, o, e', rfl, hbb, hek, c0, c1, cx, c3, c4⟩ := h.at_ hat
  rw [he] at hek
  cases hek
  have hbx := Blk.new w 26 #[.int .i64 e.kind, .int .i64 e.op, .string e.text, .int .i64 e.flag, .int .i64 e.size]
  have HB0 := Lib.hid (show Below w.heap.size w (w.alloc (.cells #[.int .i64 e.kind, .int .i64 e.op, .string e.text, .int .i64 e.flag, .int .i64 e.size] 26)) from belowS_alloc (Below.refl _ _) _)
  obtain ⟨W1, hW1⟩ : ∃ W1, w.alloc (.cells #[.int .i64 e.kind, .int .i64 e.op, .string e.text, .int .i64 e.flag, .int .i64 e.size] 26) = W1 := ⟨_, rfl⟩
  rw [hW1] at hbx HB0
  have x0 := hbx.cell 0
  have x1 := hbx.cell 1
  have x3 := hbx.cell 3
  simp only [List.getElem?_toArray, List.getElem?_cons_zero, List.getElem?_cons_succ] at x0 x1 x3
  have HH := Lib.hid (h.below HB0.out hB)
  have HK := Lib.hid (hk.below HB0.out)
  have hBW : B ≤ W1.heap.size := Nat.le_trans hB HB0.out.size
  have HE := Lib.hid he
  have hs0 : w.heap.size < W1.heap.size := hbx.lt
  clear h hk he hbx
  obtain ⟨k17, k29, k12, k13, k14, k19, k32, k20, k18, k35⟩ := hk0
  have q17 : (e.kind == 17) = false := by simpa using k17
  have q29 : (e.kind == 29) = false := by simpa using k29
  have q12 : (e.kind == 12) = false := by simpa using k12
  have q13 : (e.kind == 13) = false := by simpa using k13
  have q14 : (e.kind == 14) = false := by simpa using k14
  have q19 : (e.kind == 19) = false := by simpa using k19
  have q32 : (e.kind == 32) = false := by simpa using k32
  have q20 : (e.kind == 20) = false := by simpa using k20
  have q18 : (e.kind == 18) = false := by simpa using k18
  have q35 : (e.kind == 35) = false := by simpa using k35
  clear k17 k29 k12 k13 k14 k19 k32 k20 k18 k35
  go_enter Try.func31, Try.ntmps31
  go_wp2_with fail
  go_ret
  exact BPost.ret rfl (fun h => by cases h) HB0.out
end Go.Proofs.Ytdhhdnopilfifaa
