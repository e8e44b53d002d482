/-
  shapedGreat: nodes with kids of several sorts. (Printed by wip/gen_great.py.)
-/
import Derived.Test.YtdhhdnopilfifaaPrComp
namespace Go.Proofs.Ytdhhdnopilfifaa
open Go.RowKit

def P17 (es : List ND) (l : List Nat) : Prop := ∃ a b c d, l = [a, b, c, d] ∧ Ex es a ∧ (Ex es b ∨ Kd es [31] b) ∧ (Ex es c ∨ Kd es [31] c) ∧ (Ex es d ∨ Kd es [31] d)
def P29 (es : List ND) (l : List Nat) : Prop := ∃ a b, l = [a, b] ∧ Ex es a ∧ Kd es [13] b
def P12 (es : List ND) (l : List Nat) : Prop := ∃ a r, l = a :: r ∧ Ex es a ∧ SpecsP es r
def P13 (es : List ND) (l : List Nat) : Prop := ∀ k ∈ l, Kd es [35, 36, 37] k
def P19 (es : List ND) (l : List Nat) : Prop := ∃ r a, l = r ++ [a] ∧ (∀ k ∈ r, Kd es [33] k) ∧ Ex es a
def P32 (es : List ND) (fl : Int) (l : List Nat) : Prop := P19 es l ∧ (fl = 1 ∨ l.length = 1)
def P20 (es : List ND) (l : List Nat) : Prop := ∃ r a, l = r ++ [a] ∧ r ≠ [] ∧ (∀ k ∈ r, Kd es [32] k) ∧ Ex es a
def P18 (es : List ND) (l : List Nat) : Prop := ∃ a r, l = a :: r ∧ Ex es a ∧ ArgsP es r
/-- The flags of a field: how its name is written; a method, or a plus. -/
def FlagF (fl : Int) : Prop := fl = 0 ∨ fl = 1 ∨ fl = 2 ∨ fl = 4 ∨ fl = 5 ∨ fl = 6 ∨ fl = 8 ∨ fl = 9 ∨ fl = 10
def exprF (fl : Int) : Bool := fl == 2 || fl == 6 || fl == 10
def P35 (es : List ND) (fl : Int) (l : List Nat) : Prop := ∃ q r a, l = q ++ (r ++ [a]) ∧ (exprF fl = true → ∃ x, q = [x] ∧ Ex es x) ∧ (exprF fl = false → q = []) ∧ (fl < 8 → r = []) ∧ (∀ k ∈ r, Kd es [33] k) ∧ Ex es a
def GreatP (es : List ND) (e : ND) (l : List Nat) : Prop :=
  if e.kind = 17 then P17 es l else if e.kind = 29 then P29 es l else if e.kind = 12 then P12 es l else if e.kind = 13 then P13 es l else if e.kind = 14 then CompP es l else
  if e.kind = 19 then P19 es l else if e.kind = 32 then P32 es e.flag l else if e.kind = 20 then P20 es l else if e.kind = 18 then P18 es l else if e.kind = 35 then P35 es e.flag l else False
theorem BPost.imp {P Q : Prop} {w w' : World} {e : Ending} (h : BPost P w e w') (hi : P → Q) : BPost Q w e w' := by
  obtain ⟨⟨b, h1, h2⟩, h3⟩ := h
  exact ⟨⟨b, h1, fun hb => hi (h2 hb)⟩, h3⟩
theorem BPost.from_ {P : Prop} {w w1 w' : World} {e : Ending} (h : BPost P w1 e w') (hb : Below w.heap.size w w1) : BPost P w e w' := ⟨h.1, hb.trans (h.2.mono hb.size)⟩
/-- What the kids are: their list, as it lies, all of them nodes. -/
def KidsOK (w : World) (n : Nat) (A2 : Option Addr) (c2 : Nat) (l : List Nat) : Prop := KS w A2 (natI l) ∧ (∀ k ∈ l, k < n) ∧ l.length ≤ 1000000 ∧ l.length ≤ c2
theorem KidsOK.below {w w' : World} {n c2 : Nat} {A2 : Option Addr} {l : List Nat} (h : KidsOK w n A2 c2 l) (hb : Below w.heap.size w w') : KidsOK w' n A2 c2 l := ⟨h.1.below hb, h.2⟩
theorem KidsOK.cell {w : World} {n c2 : Nat} {A2 : Option Addr} {l : List Nat} (h : KidsOK w n A2 c2 l) {j k : Nat} (hj : l[j]? = some k) : ∃ g off, A2 = some ⟨g, off, none⟩ ∧ g < w.heap.size ∧ w.cell? ⟨g, off + j, none⟩ = some (.int .i64 k) ∧ k < n := by
  obtain ⟨g, off, h1, h2, h3⟩ := h.1.at_ (natI_get hj)
  exact ⟨g, off, h1, h2, h3, h.2.1 k (List.mem_of_getElem? hj)⟩
theorem KidsOK.tail {w : World} {n c2 g off a : Nat} {l : List Nat} (h : KidsOK w n (some ⟨g, off, none⟩) c2 (a :: l)) : KidsOK w n (some ⟨g, off + 1, none⟩) (c2 - 1) l :=
  ⟨h.1.tail, fun k hk => h.2.1 k (List.mem_cons_of_mem _ hk), by have := h.2.2.1; simp only [List.length_cons] at this; omega, by have := h.2.2.2; simp only [List.length_cons] at this; omega⟩
theorem KidsOK.take {w : World} {n c2 : Nat} {A : Option Addr} {l l2 : List Nat} (h : KidsOK w n A c2 (l ++ l2)) : KidsOK w n A c2 l :=
  ⟨by have := h.1; unfold natI at this; rw [List.map_append] at this; exact this.take, fun k hk => h.2.1 k (List.mem_append_left _ hk), by have := h.2.2.1; simp only [List.length_append] at this; omega, by have := h.2.2.2; simp only [List.length_append] at this; omega⟩
theorem snoc_of {l : List Nat} (h : l ≠ []) : ∃ r a, l = r ++ [a] := ⟨l.dropLast, l.getLast h, (List.dropLast_concat_getLast h).symm⟩
set_option maxRecDepth 100000 in
set_option maxHeartbeats 3200000 in
theorem great13 (A : Option Addr) (n c : Nat) (es : List ND) (B : Nat) (w : World) (h : Nodes w B A n es) (hB : B ≤ w.heap.size) (hn : n ≤ 1000000) (at_ : Nat) (e : ND) (he : es[at_]? = some e) (A2 : Option Addr) (c2 : Nat) (l : List Nat) (hk : KidsOK w n A2 c2 l) (hk0 : e.kind = 13) :
    Calls Try.prog 31 #[.slice A n c, .int .i64 at_, .slice A2 l.length c2] w (BPost (P13 es l) w) := by
  have hat : at_ < n := by have := (List.getElem?_eq_some_iff.1 he).1; rw [h.1] at this; exact this
  have HL := Lib.hid hk.2.2.1
  have hc2 := hk.2.2.2
  obtain ⟨b, o, e', rfl, hbb, hek, c0, c1, cx, c3, c4⟩ := h.at_ hat
  rw [he] at hek
  cases hek
  rw [hk0] at c0
  have hbx := Blk.new w 26 #[.int .i64 13, .int .i64 e.op, .string e.text, .int .i64 e.flag, .int .i64 e.size]
  have HB0 := Lib.hid (show Below w.heap.size w (w.alloc (.cells #[.int .i64 13, .int .i64 e.op, .string e.text, .int .i64 e.flag, .int .i64 e.size] 26)) from belowS_alloc (Below.refl _ _) _)
  obtain ⟨W1, hW1⟩ : ∃ W1, w.alloc (.cells #[.int .i64 13, .int .i64 e.op, .string e.text, .int .i64 e.flag, .int .i64 e.size] 26) = W1 := ⟨_, rfl⟩
  rw [hW1] at hbx HB0
  have x0 := hbx.cell 0
  have x1 := hbx.cell 1
  have x3 := hbx.cell 3
  simp only [List.getElem?_toArray, List.getElem?_cons_zero, List.getElem?_cons_succ] at x0 x1 x3
  have HH := Lib.hid (h.below HB0.out hB)
  have HK := Lib.hid (hk.below HB0.out)
  have hBW : B ≤ W1.heap.size := Nat.le_trans hB HB0.out.size
  have HE := Lib.hid he
  have hs0 : w.heap.size < W1.heap.size := hbx.lt
  clear h hk he hbx
  have HB1 := Lib.hid (show Below W1.heap.size W1 (W1.alloc (.cells #[.int .i64 35, .int .i64 36, .int .i64 37] 3)) from belowS_alloc (Below.refl _ _) _)
  have K := Lib.hid (kinds_any (some ⟨b, o, none⟩) n c es B (W1.alloc (.cells #[.int .i64 35, .int .i64 36, .int .i64 37] 3)) (HH.out.below HB1.out hBW) (Nat.le_trans hBW HB1.out.size) hn A2 c2 l (HK.out.1.below HB1.out) HK.out.2.1 HL.out (some ⟨W1.heap.size, 0, none⟩) 3 [35, 36, 37] (KS.new W1 _ _ rfl) (by simp))
  go_enter Try.func31, Try.ntmps31
  go_wp2_with fail
  refine K.out.mono ?_
  rintro e1 w1 hp
  have HP := Lib.hid (hp.from_ (HB0.out.trans (HB1.out.mono HB0.out.size)))
  obtain ⟨⟨b1, rfl, -⟩, -⟩ := hp
  go_wp2_with fail
  go_ret
  exact HP.out
set_option maxRecDepth 100000 in
set_option maxHeartbeats 3200000 in
theorem great14 (A : Option Addr) (n c : Nat) (es : List ND) (B : Nat) (w : World) (h : Nodes w B A n es) (hB : B ≤ w.heap.size) (hn : n ≤ 1000000) (at_ : Nat) (e : ND) (he : es[at_]? = some e) (A2 : Option Addr) (c2 : Nat) (l : List Nat) (hk : KidsOK w n A2 c2 l) (hk0 : e.kind = 14) :
    Calls Try.prog 31 #[.slice A n c, .int .i64 at_, .slice A2 l.length c2] w (BPost (CompP es l) w) := by
  have hat : at_ < n := by have := (List.getElem?_eq_some_iff.1 he).1; rw [h.1] at this; exact this
  have HL := Lib.hid hk.2.2.1
  have hc2 := hk.2.2.2
  obtain ⟨b, o, e', rfl, hbb, hek, c0, c1, cx, c3, c4⟩ := h.at_ hat
  rw [he] at hek
  cases hek
  rw [hk0] at c0
  have hbx := Blk.new w 26 #[.int .i64 14, .int .i64 e.op, .string e.text, .int .i64 e.flag, .int .i64 e.size]
  have HB0 := Lib.hid (show Below w.heap.size w (w.alloc (.cells #[.int .i64 14, .int .i64 e.op, .string e.text, .int .i64 e.flag, .int .i64 e.size] 26)) from belowS_alloc (Below.refl _ _) _)
  obtain ⟨W1, hW1⟩ : ∃ W1, w.alloc (.cells #[.int .i64 14, .int .i64 e.op, .string e.text, .int .i64 e.flag, .int .i64 e.size] 26) = W1 := ⟨_, rfl⟩
  rw [hW1] at hbx HB0
  have x0 := hbx.cell 0
  have x1 := hbx.cell 1
  have x3 := hbx.cell 3
  simp only [List.getElem?_toArray, List.getElem?_cons_zero, List.getElem?_cons_succ] at x0 x1 x3
  have HH := Lib.hid (h.below HB0.out hB)
  have HK := Lib.hid (hk.below HB0.out)
  have hBW : B ≤ W1.heap.size := Nat.le_trans hB HB0.out.size
  have HE := Lib.hid he
  have hs0 : w.heap.size < W1.heap.size := hbx.lt
  clear h hk he hbx
  have K := Lib.hid (shapedComp_any (some ⟨b, o, none⟩) n c es B W1 HH.out hBW hn A2 c2 l HK.out.1 HK.out.2.1 HL.out hc2)
  go_enter Try.func31, Try.ntmps31
  go_wp2_with fail
  refine K.out.mono ?_
  rintro e1 w1 hp
  have HP := Lib.hid (hp.from_ HB0.out)
  obtain ⟨⟨b1, rfl, -⟩, -⟩ := hp
  go_wp2_with fail
  go_ret
  exact HP.out
set_option maxRecDepth 100000 in
set_option maxHeartbeats 3200000 in
theorem great19 (A : Option Addr) (n c : Nat) (es : List ND) (B : Nat) (w : World) (h : Nodes w B A n es) (hB : B ≤ w.heap.size) (hn : n ≤ 1000000) (at_ : Nat) (e : ND) (he : es[at_]? = some e) (A2 : Option Addr) (c2 : Nat) (l : List Nat) (hk : KidsOK w n A2 c2 l) (hk0 : e.kind = 19) :
    Calls Try.prog 31 #[.slice A n c, .int .i64 at_, .slice A2 l.length c2] w (BPost (P19 es l) w) := by
  have hat : at_ < n := by have := (List.getElem?_eq_some_iff.1 he).1; rw [h.1] at this; exact this
  have HL := Lib.hid hk.2.2.1
  have hc2 := hk.2.2.2
  obtain ⟨b, o, e', rfl, hbb, hek, c0, c1, cx, c3, c4⟩ := h.at_ hat
  rw [he] at hek
  cases hek
  rw [hk0] at c0
  have hbx := Blk.new w 26 #[.int .i64 19, .int .i64 e.op, .string e.text, .int .i64 e.flag, .int .i64 e.size]
  have HB0 := Lib.hid (show Below w.heap.size w (w.alloc (.cells #[.int .i64 19, .int .i64 e.op, .string e.text, .int .i64 e.flag, .int .i64 e.size] 26)) from belowS_alloc (Below.refl _ _) _)
  obtain ⟨W1, hW1⟩ : ∃ W1, w.alloc (.cells #[.int .i64 19, .int .i64 e.op, .string e.text, .int .i64 e.flag, .int .i64 e.size] 26) = W1 := ⟨_, rfl⟩
  rw [hW1] at hbx HB0
  have x0 := hbx.cell 0
  have x1 := hbx.cell 1
  have x3 := hbx.cell 3
  simp only [List.getElem?_toArray, List.getElem?_cons_zero, List.getElem?_cons_succ] at x0 x1 x3
  have HH := Lib.hid (h.below HB0.out hB)
  have HK := Lib.hid (hk.below HB0.out)
  have hBW : B ≤ W1.heap.size := Nat.le_trans hB HB0.out.size
  have HE := Lib.hid he
  have hs0 : w.heap.size < W1.heap.size := hbx.lt
  clear h hk he hbx
  by_cases hl0 : l = []
  · subst hl0
    go_enter Try.func31, Try.ntmps31
    go_wp2_with fail
    go_ret
    exact BPost.ret rfl (fun h => by cases h) HB0.out
  · obtain ⟨r, a, rfl⟩ := snoc_of hl0
    have hlen : (r ++ [a]).length = r.length + 1 := by simp
    obtain ⟨g, off, rfl, hgl, hca, han⟩ := HK.out.cell (j := r.length) (k := a) (by simp)
    have HK1 := Lib.hid HK.out.take
    have HLr := Lib.hid HK1.out.2.2.1
    have hrc : r.length ≤ c2 := HK1.out.2.2.2
    have hrci : (r.length : Int) ≤ (c2 : Int) := by omega
    have wr1 : IntKind.i64.wrap (((r.length + 1 : Nat) : Int) - 1) = (r.length : Int) := by rw [IntWalk.i64_in _ (by have := HLr.out; omega)]; omega
    have wr2 : IntKind.i64.wrap ((r.length : Int) + 1 - 1) = (r.length : Int) := by rw [IntWalk.i64_in _ (by have := HLr.out; omega)]; omega
    have HB1 := Lib.hid (show Below W1.heap.size W1 (W1.alloc (.cells #[.int .i64 33] 3)) from belowS_alloc (Below.refl _ _) _)
    have K := Lib.hid (kinds_any (some ⟨b, o, none⟩) n c es B (W1.alloc (.cells #[.int .i64 33] 3)) (HH.out.below HB1.out hBW) (Nat.le_trans hBW HB1.out.size) hn (some ⟨g, off, none⟩) c2 r (HK1.out.1.below HB1.out) HK1.out.2.1 HLr.out (some ⟨W1.heap.size, 0, none⟩) 1 [33] (KS.new W1 _ _ rfl) (by simp))
    rw [hlen]
    have hr0 : (0 : Int) ≤ (r.length : Int) := by omega
    have hrm : r.length ≤ 1000000 := HLr.out
    clear hl0
    go_enter Try.func31, Try.ntmps31
    go_wp2_with fail
    refine K.out.mono ?_
    rintro e1 w1 ⟨⟨b1, rfl, hb1⟩, hw1⟩
    have HBX := Lib.hid (HB1.out.trans (hw1.mono HB1.out.size))
    have HB2 := Lib.hid (HB0.out.trans (HBX.out.mono HB0.out.size))
    cases b1
    · clear hb1 hw1
      go_wp2_with fail
      go_ret
      exact BPost.ret rfl (fun h => by cases h) HB2.out
    · have HKD := Lib.hid (hb1 (by trivial))
      have hca1 := (HBX.out.cell (p := ⟨g, off + r.length, none⟩) hgl).trans hca
      have K2 := Lib.hid (expr_any (some ⟨b, o, none⟩) n c es B w1 (HH.out.below HBX.out hBW) a han (by omega))
      clear hb1 hw1
      go_wp2_with fail
      refine K2.out.mono ?_
      rintro e2 w2 ⟨⟨b2, rfl, hb2⟩, hw2⟩
      have HB3 := Lib.hid (HB2.out.trans (hw2.mono HB2.out.size))
      cases b2
      · clear hb2 hw2
        go_wp2_with fail
        go_ret
        exact BPost.ret rfl (fun h => by cases h) HB3.out
      · have HX := Lib.hid (hb2 (by trivial))
        clear hb2 hw2
        go_wp2_with fail
        go_ret
        exact BPost.ret rfl (fun _ => ⟨r, a, rfl, HKD.out, HX.out⟩) HB3.out
set_option maxRecDepth 100000 in
set_option maxHeartbeats 3200000 in
theorem great20 (A : Option Addr) (n c : Nat) (es : List ND) (B : Nat) (w : World) (h : Nodes w B A n es) (hB : B ≤ w.heap.size) (hn : n ≤ 1000000) (at_ : Nat) (e : ND) (he : es[at_]? = some e) (A2 : Option Addr) (c2 : Nat) (l : List Nat) (hk : KidsOK w n A2 c2 l) (hk0 : e.kind = 20) :
    Calls Try.prog 31 #[.slice A n c, .int .i64 at_, .slice A2 l.length c2] w (BPost (P20 es l) w) := by
  have hat : at_ < n := by have := (List.getElem?_eq_some_iff.1 he).1; rw [h.1] at this; exact this
  have HL := Lib.hid hk.2.2.1
  have hc2 := hk.2.2.2
  obtain ⟨b, o, e', rfl, hbb, hek, c0, c1, cx, c3, c4⟩ := h.at_ hat
  rw [he] at hek
  cases hek
  rw [hk0] at c0
  have hbx := Blk.new w 26 #[.int .i64 20, .int .i64 e.op, .string e.text, .int .i64 e.flag, .int .i64 e.size]
  have HB0 := Lib.hid (show Below w.heap.size w (w.alloc (.cells #[.int .i64 20, .int .i64 e.op, .string e.text, .int .i64 e.flag, .int .i64 e.size] 26)) from belowS_alloc (Below.refl _ _) _)
  obtain ⟨W1, hW1⟩ : ∃ W1, w.alloc (.cells #[.int .i64 20, .int .i64 e.op, .string e.text, .int .i64 e.flag, .int .i64 e.size] 26) = W1 := ⟨_, rfl⟩
  rw [hW1] at hbx HB0
  have x0 := hbx.cell 0
  have x1 := hbx.cell 1
  have x3 := hbx.cell 3
  simp only [List.getElem?_toArray, List.getElem?_cons_zero, List.getElem?_cons_succ] at x0 x1 x3
  have HH := Lib.hid (h.below HB0.out hB)
  have HK := Lib.hid (hk.below HB0.out)
  have hBW : B ≤ W1.heap.size := Nat.le_trans hB HB0.out.size
  have HE := Lib.hid he
  have hs0 : w.heap.size < W1.heap.size := hbx.lt
  clear h hk he hbx
  by_cases hl0 : l = []
  · subst hl0
    go_enter Try.func31, Try.ntmps31
    go_wp2_with fail
    go_ret
    exact BPost.ret rfl (fun h => by cases h) HB0.out
  · obtain ⟨r, a, rfl⟩ := snoc_of hl0
    have hlen : (r ++ [a]).length = r.length + 1 := by simp
    obtain ⟨g, off, rfl, hgl, hca, han⟩ := HK.out.cell (j := r.length) (k := a) (by simp)
    have HK1 := Lib.hid HK.out.take
    have HLr := Lib.hid HK1.out.2.2.1
    have hrc : r.length ≤ c2 := HK1.out.2.2.2
    have hrci : (r.length : Int) ≤ (c2 : Int) := by omega
    have wr1 : IntKind.i64.wrap (((r.length + 1 : Nat) : Int) - 1) = (r.length : Int) := by rw [IntWalk.i64_in _ (by have := HLr.out; omega)]; omega
    have wr2 : IntKind.i64.wrap ((r.length : Int) + 1 - 1) = (r.length : Int) := by rw [IntWalk.i64_in _ (by have := HLr.out; omega)]; omega
    have HB1 := Lib.hid (show Below W1.heap.size W1 (W1.alloc (.cells #[.int .i64 32] 3)) from belowS_alloc (Below.refl _ _) _)
    have K := Lib.hid (kinds_any (some ⟨b, o, none⟩) n c es B (W1.alloc (.cells #[.int .i64 32] 3)) (HH.out.below HB1.out hBW) (Nat.le_trans hBW HB1.out.size) hn (some ⟨g, off, none⟩) c2 r (HK1.out.1.below HB1.out) HK1.out.2.1 HLr.out (some ⟨W1.heap.size, 0, none⟩) 1 [32] (KS.new W1 _ _ rfl) (by simp))
    rw [hlen]
    have hr0 : (0 : Int) ≤ (r.length : Int) := by omega
    have hrm : r.length ≤ 1000000 := HLr.out
    clear hl0
    by_cases hr : r = []
    · subst hr
      go_enter Try.func31, Try.ntmps31
      go_wp2_with fail
      go_ret
      exact BPost.ret rfl (fun h => by cases h) HB0.out
    · have hrl : 0 < r.length := List.length_pos_iff.2 hr
      have HR := Lib.hid hr
      clear hr
      have h2 : (2 : Int) ≤ ((r.length + 1 : Nat) : Int) := by omega
      have h3 : (2 : Int) ≤ (r.length : Int) + 1 := by omega
      go_enter Try.func31, Try.ntmps31
      go_wp2_with fail
      refine K.out.mono ?_
      rintro e1 w1 ⟨⟨b1, rfl, hb1⟩, hw1⟩
      have HBX := Lib.hid (HB1.out.trans (hw1.mono HB1.out.size))
      have HB2 := Lib.hid (HB0.out.trans (HBX.out.mono HB0.out.size))
      cases b1
      · clear hb1 hw1
        go_wp2_with fail
        go_ret
        exact BPost.ret rfl (fun h => by cases h) HB2.out
      · have HKD := Lib.hid (hb1 (by trivial))
        have hca1 := (HBX.out.cell (p := ⟨g, off + r.length, none⟩) hgl).trans hca
        have K2 := Lib.hid (expr_any (some ⟨b, o, none⟩) n c es B w1 (HH.out.below HBX.out hBW) a han (by omega))
        clear hb1 hw1
        go_wp2_with fail
        refine K2.out.mono ?_
        rintro e2 w2 ⟨⟨b2, rfl, hb2⟩, hw2⟩
        have HB3 := Lib.hid (HB2.out.trans (hw2.mono HB2.out.size))
        cases b2
        · clear hb2 hw2
          go_wp2_with fail
          go_ret
          exact BPost.ret rfl (fun h => by cases h) HB3.out
        · have HX := Lib.hid (hb2 (by trivial))
          clear hb2 hw2
          go_wp2_with fail
          go_ret
          exact BPost.ret rfl (fun _ => ⟨r, a, rfl, HR.out, HKD.out, HX.out⟩) HB3.out
set_option maxRecDepth 100000 in
set_option maxHeartbeats 3200000 in
theorem great32 (A : Option Addr) (n c : Nat) (es : List ND) (B : Nat) (w : World) (h : Nodes w B A n es) (hB : B ≤ w.heap.size) (hn : n ≤ 1000000) (at_ : Nat) (e : ND) (he : es[at_]? = some e) (A2 : Option Addr) (c2 : Nat) (l : List Nat) (hk : KidsOK w n A2 c2 l) (hk0 : e.kind = 32) (hfl : e.flag = 0 ∨ e.flag = 1) :
    Calls Try.prog 31 #[.slice A n c, .int .i64 at_, .slice A2 l.length c2] w (BPost (P32 es e.flag l) w) := by
  have hat : at_ < n := by have := (List.getElem?_eq_some_iff.1 he).1; rw [h.1] at this; exact this
  have HL := Lib.hid hk.2.2.1
  have hc2 := hk.2.2.2
  obtain ⟨b, o, e', rfl, hbb, hek, c0, c1, cx, c3, c4⟩ := h.at_ hat
  rw [he] at hek
  cases hek
  rw [hk0] at c0
  have hbx := Blk.new w 26 #[.int .i64 32, .int .i64 e.op, .string e.text, .int .i64 e.flag, .int .i64 e.size]
  have HB0 := Lib.hid (show Below w.heap.size w (w.alloc (.cells #[.int .i64 32, .int .i64 e.op, .string e.text, .int .i64 e.flag, .int .i64 e.size] 26)) from belowS_alloc (Below.refl _ _) _)
  obtain ⟨W1, hW1⟩ : ∃ W1, w.alloc (.cells #[.int .i64 32, .int .i64 e.op, .string e.text, .int .i64 e.flag, .int .i64 e.size] 26) = W1 := ⟨_, rfl⟩
  rw [hW1] at hbx HB0
  have x0 := hbx.cell 0
  have x1 := hbx.cell 1
  have x3 := hbx.cell 3
  simp only [List.getElem?_toArray, List.getElem?_cons_zero, List.getElem?_cons_succ] at x0 x1 x3
  have HH := Lib.hid (h.below HB0.out hB)
  have HK := Lib.hid (hk.below HB0.out)
  have hBW : B ≤ W1.heap.size := Nat.le_trans hB HB0.out.size
  have HE := Lib.hid he
  have hs0 : w.heap.size < W1.heap.size := hbx.lt
  clear h hk he hbx
  rcases hfl with hfl | hfl
  · rw [hfl] at x3
    clear hfl
    by_cases h1 : l.length = 1
    · obtain ⟨a, rfl⟩ : ∃ a, l = [a] := by
        cases l with
        | nil => cases h1
        | cons a r => cases r with
          | nil => exact ⟨a, rfl⟩
          | cons x r => simp at h1
      obtain ⟨g, off, rfl, hgl, hca, han⟩ := HK.out.cell (j := 0) (k := a) rfl
      simp only [Nat.add_zero] at hca
      have HB1 := Lib.hid (show Below W1.heap.size W1 (W1.alloc (.cells #[.int .i64 33] 3)) from belowS_alloc (Below.refl _ _) _)
      have K := Lib.hid (kinds_any (some ⟨b, o, none⟩) n c es B (W1.alloc (.cells #[.int .i64 33] 3)) (HH.out.below HB1.out hBW) (Nat.le_trans hBW HB1.out.size) hn (some ⟨g, off, none⟩) c2 [] (.inl rfl) (fun k hk => by cases hk) (by simp) (some ⟨W1.heap.size, 0, none⟩) 1 [33] (KS.new W1 _ _ rfl) (by simp))
      rw [show ([a] : List Nat).length = 1 from rfl]
      clear h1
      have hcc : (0 : Int) ≤ (c2 : Int) := by omega
      go_enter Try.func31, Try.ntmps31
      go_wp2_with fail
      refine K.out.mono ?_
      rintro e1 w1 ⟨⟨b1, rfl, hb1⟩, hw1⟩
      have HBX := Lib.hid (HB1.out.trans (hw1.mono HB1.out.size))
      have HB2 := Lib.hid (HB0.out.trans (HBX.out.mono HB0.out.size))
      cases b1
      · clear hb1 hw1
        go_wp2_with fail
        go_ret
        exact BPost.ret rfl (fun h => by cases h) HB2.out
      · have hca1 := (HBX.out.cell (p := ⟨g, off, none⟩) hgl).trans hca
        have K2 := Lib.hid (expr_any (some ⟨b, o, none⟩) n c es B w1 (HH.out.below HBX.out hBW) a han (by omega))
        clear hb1 hw1
        go_wp2_with fail
        refine K2.out.mono ?_
        rintro e2 w2 hp
        have HP := Lib.hid ((hp.from_ HB2.out).imp (Q := P32 es e.flag [a]) fun hx => ⟨⟨[], a, rfl, (fun k hk => by cases hk), hx⟩, .inr rfl⟩)
        obtain ⟨⟨b2, rfl, -⟩, -⟩ := hp
        go_wp2_with fail
        go_ret
        exact HP.out
    · have q1 : ((l.length : Int) == 1) = false := by simp; omega
      by_cases h0 : l = []
      · subst h0
        go_enter Try.func31, Try.ntmps31
        go_wp2_with fail
        go_ret
        exact BPost.ret rfl (fun h => by cases h) HB0.out
      · have q2 : (1 : Int) ≤ (l.length : Int) := by have := List.length_pos_iff.2 h0; omega
        clear h0 h1
        go_enter Try.func31, Try.ntmps31
        go_wp2_with fail
        go_ret
        exact BPost.ret rfl (fun h => by cases h) HB0.out
  · have HFL := Lib.hid hfl
    rw [hfl] at x3
    clear hfl
    by_cases hl0 : l = []
    · subst hl0
      go_enter Try.func31, Try.ntmps31
      go_wp2_with fail
      go_ret
      exact BPost.ret rfl (fun h => by cases h) HB0.out
    · obtain ⟨r, a, rfl⟩ := snoc_of hl0
      have hlen : (r ++ [a]).length = r.length + 1 := by simp
      obtain ⟨g, off, rfl, hgl, hca, han⟩ := HK.out.cell (j := r.length) (k := a) (by simp)
      have HK1 := Lib.hid HK.out.take
      have HLr := Lib.hid HK1.out.2.2.1
      have hrc : r.length ≤ c2 := HK1.out.2.2.2
      have hrci : (r.length : Int) ≤ (c2 : Int) := by omega
      have wr1 : IntKind.i64.wrap (((r.length + 1 : Nat) : Int) - 1) = (r.length : Int) := by rw [IntWalk.i64_in _ (by have := HLr.out; omega)]; omega
      have wr2 : IntKind.i64.wrap ((r.length : Int) + 1 - 1) = (r.length : Int) := by rw [IntWalk.i64_in _ (by have := HLr.out; omega)]; omega
      have HB1 := Lib.hid (show Below W1.heap.size W1 (W1.alloc (.cells #[.int .i64 33] 3)) from belowS_alloc (Below.refl _ _) _)
      have K := Lib.hid (kinds_any (some ⟨b, o, none⟩) n c es B (W1.alloc (.cells #[.int .i64 33] 3)) (HH.out.below HB1.out hBW) (Nat.le_trans hBW HB1.out.size) hn (some ⟨g, off, none⟩) c2 r (HK1.out.1.below HB1.out) HK1.out.2.1 HLr.out (some ⟨W1.heap.size, 0, none⟩) 1 [33] (KS.new W1 _ _ rfl) (by simp))
      rw [hlen]
      have hr0 : (0 : Int) ≤ (r.length : Int) := by omega
      have hrm : r.length ≤ 1000000 := HLr.out
      clear hl0
      go_enter Try.func31, Try.ntmps31
      go_wp2_with fail
      refine K.out.mono ?_
      rintro e1 w1 ⟨⟨b1, rfl, hb1⟩, hw1⟩
      have HBX := Lib.hid (HB1.out.trans (hw1.mono HB1.out.size))
      have HB2 := Lib.hid (HB0.out.trans (HBX.out.mono HB0.out.size))
      cases b1
      · clear hb1 hw1
        go_wp2_with fail
        go_ret
        exact BPost.ret rfl (fun h => by cases h) HB2.out
      · have HKD := Lib.hid (hb1 (by trivial))
        have hca1 := (HBX.out.cell (p := ⟨g, off + r.length, none⟩) hgl).trans hca
        have K2 := Lib.hid (expr_any (some ⟨b, o, none⟩) n c es B w1 (HH.out.below HBX.out hBW) a han (by omega))
        clear hb1 hw1
        go_wp2_with fail
        refine K2.out.mono ?_
        rintro e2 w2 ⟨⟨b2, rfl, hb2⟩, hw2⟩
        have HB3 := Lib.hid (HB2.out.trans (hw2.mono HB2.out.size))
        cases b2
        · clear hb2 hw2
          go_wp2_with fail
          go_ret
          exact BPost.ret rfl (fun h => by cases h) HB3.out
        · have HX := Lib.hid (hb2 (by trivial))
          clear hb2 hw2
          go_wp2_with fail
          go_ret
          exact BPost.ret rfl (fun _ => ⟨⟨r, a, rfl, HKD.out, HX.out⟩, .inl HFL.out⟩) HB3.out
end Go.Proofs.Ytdhhdnopilfifaa
