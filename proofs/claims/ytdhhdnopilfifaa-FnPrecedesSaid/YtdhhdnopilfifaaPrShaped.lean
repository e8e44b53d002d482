/-
  shaped: a node has the kids that its kind says. (Printed by wip/gen_shaped.py.)
-/
import Derived.Test.YtdhhdnopilfifaaPrGreat3
import Derived.Deep.RegionHeld3
import Derived.Deep.DeepCutAuto
namespace Go.Proofs.Ytdhhdnopilfifaa
open Go.RowKit

def AllEx (es : List ND) (l : List Nat) : Prop := ∀ k ∈ l, Ex es k
def S1 (es : List ND) (l : List Nat) : Prop := ∃ a, l = [a] ∧ Ex es a
def S2 (es : List ND) (l : List Nat) : Prop := ∃ a b, l = [a, b] ∧ Ex es a ∧ Ex es b
def S9 (es : List ND) (fl : Int) (l : List Nat) : Prop := (fl = 0 → S1 es l) ∧ (fl = 1 → l = [])
def SN (m : Int) (es : List ND) (l : List Nat) : Prop := (l.length : Int) = m ∧ AllEx es l
def S36 (es : List ND) (l : List Nat) : Prop := ∃ a, l = [a] ∧ Kd es [32] a
def inL0 (k : Int) : Bool := [1, 2, 3, 4, 5, 6, 7, 8, 26, 27, 28, 31].contains k
def inL1 (k : Int) : Bool := [10, 22, 24, 30, 16, 34, 38, 39].contains k
/-- The kids that a node's kind says. -/
def ShapeP (es : List ND) (e : ND) (l : List Nat) : Prop :=
  if inL0 e.kind then l = [] else if inL1 e.kind then S1 es l else if e.kind = 9 then S9 es e.flag l else if e.kind = 11 then AllEx es l else if e.kind = 15 then S2 es l else if e.kind = 23 then S2 es l else
  if e.kind = 21 then (SN 2 es l ∨ SN 3 es l) else if e.kind = 25 then SN (2 + e.flag) es l else if e.kind = 37 then SN (1 + e.flag) es l else if e.kind = 36 then S36 es l else
  if e.kind = 33 then (l = [] ∨ S1 es l) else GreatP es e l
/-- What the fields of a node that its kind uses hold. -/
def BareP (e : ND) : Prop :=
  (e.kind = 9 ∨ e.kind = 18 ∨ e.kind = 25 ∨ e.kind = 37 ∨ e.kind = 32 → e.flag = 0 ∨ e.flag = 1) ∧ (e.kind = 22 → 1 ≤ e.op ∧ e.op ≤ 4) ∧ (e.kind = 23 → 1 ≤ e.op ∧ e.op ≤ 19) ∧
  (e.kind = 35 → FlagF e.flag ∧ 0 ≤ e.op ∧ e.op ≤ 2)
theorem s1_of {es : List ND} {l : List Nat} (h : (l.length : Int) = 1) (ha : AllEx es l) : S1 es l := by
  match l, h with
  | [a], _ => exact ⟨a, rfl, ha a (List.mem_cons_self ..)⟩
theorem s2_of {es : List ND} {l : List Nat} (h : (l.length : Int) = 2) (ha : AllEx es l) : S2 es l := by
  match l, h with
  | [a, b], _ => exact ⟨a, b, rfl, ha a (List.mem_cons_self ..), ha b (List.mem_cons_of_mem _ (List.mem_cons_self ..))⟩
theorem s36_of {es : List ND} {l : List Nat} (h : (l.length : Int) = 1) (ha : ∀ k ∈ l, Kd es [32] k) : S36 es l := by
  match l, h with
  | [a], _ => exact ⟨a, rfl, ha a (List.mem_cons_self ..)⟩
theorem s33_of {es : List ND} {l : List Nat} (h : (l.length : Int) ≤ 1) (ha : AllEx es l) : l = [] ∨ S1 es l := by
  match l, h with
  | [], _ => exact .inl rfl
  | [a], _ => exact .inr ⟨a, rfl, ha a (List.mem_cons_self ..)⟩
  | _ :: _ :: _, h => simp only [List.length_cons] at h; omega
theorem nil_of {l : List Nat} (h : (l.length : Int) = 0) : l = [] := List.eq_nil_of_length_eq_zero (by omega)
theorem KidsOK.own {w' : World} {n base c : Nat} {A : Option Addr} {l : List Nat} (h : w'.ownsRow base 3 1 (.slice A l.length c) l.length ((natI l).map (Value.int .i64))) (hl : ∀ k ∈ l, k < n) (hll : l.length ≤ 1000000) : KidsOK w' n A c l := by
  refine ⟨KS.of_own h, hl, hll, ?_⟩
  rcases h.2 with ⟨h0, hn⟩ | ⟨g, cap, cur, hv, _, _, h1, _⟩
  · omega
  · injection hv with _ _ hc
    omega
theorem shp0 {es : List ND} {e : ND} {l : List Nat} (h : inL0 e.kind = true) (hl : l = []) : ShapeP es e l := by unfold ShapeP; rw [if_pos h]; exact hl
theorem shp1 {es : List ND} {e : ND} {l : List Nat} (h0 : inL0 e.kind = false) (h : inL1 e.kind = true) (hl : S1 es l) : ShapeP es e l := by unfold ShapeP; rw [h0, h]; exact hl
def cellsA (e : ND) : Array Value := #[.int .i64 e.kind, .int .i64 e.op, .string e.text, .int .i64 e.flag, .int .i64 e.size]
/-- The node's box, and its kids' places. -/
def ShI (n : Nat) (e : ND) (l : List Nat) (w wx : World) (g : Nat) (A : Option Addr) (c : Nat) : Prop := Blk wx g 26 (cellsA e) ∧ KidsOK wx n A c l ∧ Below w.heap.size w wx
theorem keep5 {w w' : World} (hb : Below w.heap.size w w') {p1 p2 p3 p4 p5 : Addr} {u1 u2 u3 u4 u5 : Value} (c1 : w.cell? p1 = some u1) (c2 : w.cell? p2 = some u2) (c3 : w.cell? p3 = some u3) (c4 : w.cell? p4 = some u4) (c5 : w.cell? p5 = some u5) :
    Below w.heap.size w w' ∧ w'.cell? p1 = some u1 ∧ w'.cell? p2 = some u2 ∧ w'.cell? p3 = some u3 ∧ w'.cell? p4 = some u4 ∧ w'.cell? p5 = some u5 :=
  have k : ∀ {p : Addr} {u : Value}, w.cell? p = some u → w'.cell? p = some u := fun {p} {_} h => (hb.cell (World.block_lt_of_cell? w p h)).trans h
  ⟨hb, k c1, k c2, k c3, k c4, k c5⟩
theorem belowS_set {a w' : World} (h : Below a.heap.size a w') {g i : Nat} (hg : a.heap.size ≤ g) (u : Value) : Below a.heap.size a (w'.setCell ⟨g, i, none⟩ u) := h.setCell (p := ⟨g, i, none⟩) hg u
def zeroA : Array Value := #[.int .i64 0, .int .i64 0, .string ByteArray.empty, .int .i64 0, .int .i64 0]
theorem below_of1 {w w9 : World} (h : Below w.drew.heap.size w.drew w9) : Below w.heap.size w w9 := (Below.refl w.heap.size w).drew.trans h
theorem below_of2 {w w9 : World} {x : Obj} (h : Below (w.alloc x).drew.heap.size (w.alloc x).drew w9) : Below w.heap.size w w9 :=
  (belowS_alloc (Below.refl w.heap.size w) x).drew.trans (h.mono (by show w.heap.size ≤ (w.alloc x).heap.size; simp))
theorem blk_of2 {w w9 : World} {cs : Array Value} (h : Below (w.alloc (.cells cs 26)).drew.heap.size (w.alloc (.cells cs 26)).drew w9) : Blk w9 w.heap.size 26 cs :=
  ((Blk.new w 26 cs).drew).below h (by show w.heap.size < (w.alloc _).heap.size; simp)
theorem shI_1 {n : Nat} {e : ND} {l : List Nat} {w w9 : World} {A : Option Addr} {c base : Nat} (hb : Below w.heap.size w w9) (hr : w9.ownsRow base 3 1 (.slice A l.length c) l.length ((natI l).map (Value.int .i64))) (hl : ∀ k ∈ l, k < n) (hll : l.length ≤ 1000000) :
    ShI n e l w (w9.alloc (.cells (cellsA e) 26)) w9.heap.size A c :=
  ⟨Blk.new _ _ _, (KidsOK.own hr hl hll).below (belowS_alloc (Below.refl _ _) _), belowS_alloc hb _⟩
theorem shI_2 {n : Nat} {e : ND} {l : List Nat} {w w9 : World} {A : Option Addr} {c base : Nat} (hb : Below w.heap.size w w9) (hr : w9.ownsRow base 3 1 (.slice A l.length c) l.length ((natI l).map (Value.int .i64))) (hl : ∀ k ∈ l, k < n) (hll : l.length ≤ 1000000)
    (hN : Blk w9 w.heap.size 26 zeroA) (hbase : w.heap.size + 1 ≤ base) :
    ShI n e l w (((((w9.setCell ⟨w.heap.size, 0, none⟩ (.int .i64 e.kind)).setCell ⟨w.heap.size, 1, none⟩ (.int .i64 e.op)).setCell ⟨w.heap.size, 2, none⟩ (.string e.text)).setCell ⟨w.heap.size, 3, none⟩ (.int .i64 e.flag)).setCell ⟨w.heap.size, 4, none⟩ (.int .i64 e.size)) w.heap.size A c := by
  have hB : Below (w.heap.size + 1) w9 w9 := Below.refl _ _
  refine ⟨by simpa [zeroA, cellsA] using ((((hN.set_ 0 (.int .i64 e.kind)).set_ 1 (.int .i64 e.op)).set_ 2 (.string e.text)).set_ 3 (.int .i64 e.flag)).set_ 4 (.int .i64 e.size), ?_, ?_⟩
  · refine KidsOK.own (base := base) ?_ hl hll
    refine ⟨hr.1, ?_⟩
    rcases hr.2 with h4 | ⟨g, cap, cur, h5, h6, h7, h8⟩
    · exact .inl h4
    · have hne : g ≠ w.heap.size := by omega
      have hB7 : Blk w9 g 3 cur := h7
      exact .inr ⟨g, cap, cur, h5, h6, ((((hB7.far (p := ⟨w.heap.size, 0, none⟩) hne _).far (p := ⟨w.heap.size, 1, none⟩) hne _).far (p := ⟨w.heap.size, 2, none⟩) hne _).far (p := ⟨w.heap.size, 3, none⟩) hne _).far (p := ⟨w.heap.size, 4, none⟩) hne _, h8⟩
  · exact belowS_set (belowS_set (belowS_set (belowS_set (belowS_set hb (Nat.le_refl _) _) (Nat.le_refl _) _) (Nat.le_refl _) _) (Nat.le_refl _) _) (Nat.le_refl _) _
theorem shI_3 {n : Nat} {e : ND} {l : List Nat} {w w9 : World} {A : Option Addr} {c base : Nat} (hb : Below w.heap.size w w9) (hr : w9.ownsRow base 3 1 (.slice A l.length c) l.length ((natI l).map (Value.int .i64))) (hl : ∀ k ∈ l, k < n) (hll : l.length ≤ 1000000)
    (hN : Blk w9 w.heap.size 26 (cellsA e)) : ShI n e l w w9 w.heap.size A c := ⟨hN, KidsOK.own hr hl hll, hb⟩
set_option maxRecDepth 100000 in
set_option maxHeartbeats 6400000 in
theorem shaped_any (A : Option Addr) (n c : Nat) (es : List ND) (B : Nat) (w : World) (h : Nodes w B A n es) (hB : B ≤ w.heap.size) (hn : n ≤ 1000000) (at_ : Nat) (e : ND) (he : es[at_]? = some e) (l : List Nat) (hf : FitN es es.length at_ l) (hbare : BareP e) :
    Calls Try.prog 18 #[.slice A n c, .int .i64 at_] w (BPost (ShapeP es e l) w) := by
  have HH := Lib.hid h
  have hlen : es.length = n := h.1
  have hat : at_ < n := by have := (List.getElem?_eq_some_iff.1 he).1; omega
  have hmem : ∀ k ∈ l, k < n := by
    obtain ⟨x, hx, g1, g2, g3⟩ := hf
    intro k hk
    have := (g3.mem k hk).2
    omega
  have hll : l.length ≤ 1000000 := by
    obtain ⟨x, hx, g1, g2, g3⟩ := hf
    have := g3.len
    omega
  have KK := Lib.hid (fun (w' : World) (hb : Below w.heap.size w w') => Kids_any A n c es B w' (h.below hb hB) (Nat.le_trans hB hb.size) hn at_ l hf)
  obtain ⟨b, o, e', rfl, hbb, hek, c0, c1, c2, c3, c4⟩ := h.at_ hat
  rw [he] at hek
  cases hek
  have HM := Lib.hid hmem
  have HE := Lib.hid he
  have HBR := Lib.hid hbare
  have HLL := Lib.hid hll
  clear h hf hbare hmem he hlen hll
  have hbw : b < w.heap.size := by omega
  go_enter Try.func18, Try.ntmps18
  go_upto_region 1 with fail
  go_cut [5, 6] (fun s5 s6 wx => ∃ (g : Nat) (A2 : Option Addr) (c2 : Nat), s5 = .pointer (some ⟨g, 0, none⟩) ∧ s6 = .slice A2 l.length c2 ∧ Hid (ShI n e l w wx g A2 c2))
  case first =>
    go_region_held3 (fun w' => Below w.heap.size w w' ∧ w'.cell? ⟨b, o + at_ * 5, none⟩ = some (.int .i64 e.kind) ∧ w'.cell? ⟨b, o + at_ * 5 + 1, none⟩ = some (.int .i64 e.op) ∧ w'.cell? ⟨b, o + at_ * 5 + 2, none⟩ = some (.string e.text) ∧ w'.cell? ⟨b, o + at_ * 5 + 3, none⟩ = some (.int .i64 e.flag) ∧ w'.cell? ⟨b, o + at_ * 5 + 4, none⟩ = some (.int .i64 e.size))
      ((refine keep5 ?_ c0 c1 c2 c3 c4; repeat (first | with_reducible exact Below.refl _ _ | with_reducible exact hk9 | with_reducible apply Below.drew | with_reducible apply belowS_alloc | (with_reducible refine belowS_set ?_ (Nat.le_refl _) _))))
      (first
        | (go_at_call 28; refine (KK.out w.drew (Below.refl _ _).drew).mono ?_; rintro e9 w9 ⟨⟨A9, c9, rfl, hr9⟩, hb9⟩; have hk9 : Below w.heap.size w w9 := below_of1 hb9)
        | (go_at_call 28; refine (KK.out (w.alloc (.cells zeroA 26)).drew (belowS_alloc (Below.refl _ _) _).drew).mono ?_; rintro e9 w9 ⟨⟨A9, c9, rfl, hr9⟩, hb9⟩; have hk9 : Below w.heap.size w w9 := below_of2 hb9; have hN := blk_of2 hb9; have hbs : w.heap.size + 1 ≤ (w.alloc (.cells zeroA 26)).drew.heap.size := (by show w.heap.size + 1 ≤ (w.alloc _).heap.size; simp); have n0 := hN.cell 0; have n1 := hN.cell 1; have n2 := hN.cell 2; have n3 := hN.cell 3; have n4 := hN.cell 4; have m0 := hN.frozen 0; have m1 := hN.frozen 1; have m2 := hN.frozen 2; have m3 := hN.frozen 3; have m4 := hN.frozen 4; simp only [zeroA, List.getElem?_toArray, List.getElem?_cons_zero, List.getElem?_cons_succ] at n0 n1 n2 n3 n4)
        | (go_at_call 28; refine (KK.out (w.alloc (.cells (cellsA e) 26)).drew (belowS_alloc (Below.refl _ _) _).drew).mono ?_; rintro e9 w9 ⟨⟨A9, c9, rfl, hr9⟩, hb9⟩; have hk9 : Below w.heap.size w w9 := below_of2 hb9; have hN := blk_of2 hb9))
    all_goals
      go_wp2_with fail
      go_meet
      first
        | (have hz9 := hbs; exact ⟨_, _, _, rfl, rfl, Lib.hid (shI_2 hk9 hr9 HM.out HLL.out hN hz9)⟩)
        | (have hz9 := hN; exact ⟨_, _, _, rfl, rfl, Lib.hid (shI_3 hk9 hr9 HM.out HLL.out hz9)⟩)
        | exact ⟨_, _, _, rfl, rfl, Lib.hid (shI_1 hk9 hr9 HM.out HLL.out)⟩
  case rest =>
    obtain ⟨g, A2, c2', rfl, rfl, HI⟩ := hcut
    obtain ⟨hbx, hko, hb⟩ := HI.out
    have x0 := hbx.cell 0
    have x3 := hbx.cell 3
    simp only [cellsA, List.getElem?_toArray, List.getElem?_cons_zero, List.getElem?_cons_succ] at x0 x3
    have HB := Lib.hid hb
    have HKO := Lib.hid hko
    have KE := Lib.hid (exprs_any (some ⟨b, o, none⟩) n c es B wc (HH.out.below hb hB) (Nat.le_trans hB hb.size) hn A2 c2' l hko.1 hko.2.1 HLL.out)
    have KG := Lib.hid (great_any (some ⟨b, o, none⟩) n c es B wc (HH.out.below hb hB) (Nat.le_trans hB hb.size) hn at_ e HE.out A2 c2' l hko (fun h => HBR.out.1 (.inr (.inr (.inr (.inr h))))) (fun h => (HBR.out.2.2.2 h).1))
    clear hbx hko hb c0 c1 c2 c3 c4
    rcases kind_split e.kind with h | h | h | h | h | h | h | h | h | h | h | h | h | h | h | h | h | h | h | h | h | h | h | h | h | h | h | h | h | h | h | h | h | h | h | h | h | h | h | h | h
    · clear KE
      have q1 : (e.kind == 1) = false := by simp; omega
      have q2 : (e.kind == 2) = false := by simp; omega
      have q3 : (e.kind == 3) = false := by simp; omega
      have q4 : (e.kind == 4) = false := by simp; omega
      have q5 : (e.kind == 5) = false := by simp; omega
      have q6 : (e.kind == 6) = false := by simp; omega
      have q7 : (e.kind == 7) = false := by simp; omega
      have q8 : (e.kind == 8) = false := by simp; omega
      have q9 : (e.kind == 9) = false := by simp; omega
      have q10 : (e.kind == 10) = false := by simp; omega
      have q11 : (e.kind == 11) = false := by simp; omega
      have q15 : (e.kind == 15) = false := by simp; omega
      have q16 : (e.kind == 16) = false := by simp; omega
      have q21 : (e.kind == 21) = false := by simp; omega
      have q22 : (e.kind == 22) = false := by simp; omega
      have q23 : (e.kind == 23) = false := by simp; omega
      have q24 : (e.kind == 24) = false := by simp; omega
      have q25 : (e.kind == 25) = false := by simp; omega
      have q26 : (e.kind == 26) = false := by simp; omega
      have q27 : (e.kind == 27) = false := by simp; omega
      have q28 : (e.kind == 28) = false := by simp; omega
      have q30 : (e.kind == 30) = false := by simp; omega
      have q31 : (e.kind == 31) = false := by simp; omega
      have q33 : (e.kind == 33) = false := by simp; omega
      have q34 : (e.kind == 34) = false := by simp; omega
      have q36 : (e.kind == 36) = false := by simp; omega
      have q37 : (e.kind == 37) = false := by simp; omega
      have q38 : (e.kind == 38) = false := by simp; omega
      have q39 : (e.kind == 39) = false := by simp; omega
      have HO : Hid (GreatP es e l → ShapeP es e l) := Lib.hid (fun hx => by
        unfold ShapeP
        rw [show inL0 e.kind = false by unfold inL0; simp; omega, show inL1 e.kind = false by unfold inL1; simp; omega]
        rw [if_neg (by decide), if_neg (by decide), if_neg (by omega), if_neg (by omega), if_neg (by omega), if_neg (by omega), if_neg (by omega), if_neg (by omega), if_neg (by omega), if_neg (by omega), if_neg (by omega)]
        exact hx)
      clear h
      generalize e.kind = ek at *
      go_wp2_with fail
      refine KG.out.mono ?_
      rintro e1 w1 hp
      have HP := Lib.hid ((hp.from_ HB.out).imp (Q := ShapeP es e l) fun hx => HO.out hx)
      obtain ⟨⟨b1, rfl, -⟩, -⟩ := hp
      go_wp2_with fail
      go_ret
      exact HP.out
    · rw [h] at x0
      have HK := Lib.hid h
      clear h
      clear KE KG
      by_cases hq : (l.length : Int) = 0
      · have q1 : ((l.length : Int) == 0) = true := by simpa using hq
        have HQ := Lib.hid hq
        clear hq
        go_wp2_with fail
        go_ret
        exact BPost.ret rfl (fun _ => shp0 (by rw [HK.out]; rfl) (nil_of HQ.out)) HB.out
      · have q1 : ((l.length : Int) == 0) = false := by simpa using hq
        clear hq
        go_wp2_with fail
        go_ret
        exact BPost.ret rfl (fun h => by cases h) HB.out
    · rw [h] at x0
      have HK := Lib.hid h
      clear h
      clear KE KG
      by_cases hq : (l.length : Int) = 0
      · have q1 : ((l.length : Int) == 0) = true := by simpa using hq
        have HQ := Lib.hid hq
        clear hq
        go_wp2_with fail
        go_ret
        exact BPost.ret rfl (fun _ => shp0 (by rw [HK.out]; rfl) (nil_of HQ.out)) HB.out
      · have q1 : ((l.length : Int) == 0) = false := by simpa using hq
        clear hq
        go_wp2_with fail
        go_ret
        exact BPost.ret rfl (fun h => by cases h) HB.out
    · rw [h] at x0
      have HK := Lib.hid h
      clear h
      clear KE KG
      by_cases hq : (l.length : Int) = 0
      · have q1 : ((l.length : Int) == 0) = true := by simpa using hq
        have HQ := Lib.hid hq
        clear hq
        go_wp2_with fail
        go_ret
        exact BPost.ret rfl (fun _ => shp0 (by rw [HK.out]; rfl) (nil_of HQ.out)) HB.out
      · have q1 : ((l.length : Int) == 0) = false := by simpa using hq
        clear hq
        go_wp2_with fail
        go_ret
        exact BPost.ret rfl (fun h => by cases h) HB.out
    · rw [h] at x0
      have HK := Lib.hid h
      clear h
      clear KE KG
      by_cases hq : (l.length : Int) = 0
      · have q1 : ((l.length : Int) == 0) = true := by simpa using hq
        have HQ := Lib.hid hq
        clear hq
        go_wp2_with fail
        go_ret
        exact BPost.ret rfl (fun _ => shp0 (by rw [HK.out]; rfl) (nil_of HQ.out)) HB.out
      · have q1 : ((l.length : Int) == 0) = false := by simpa using hq
        clear hq
        go_wp2_with fail
        go_ret
        exact BPost.ret rfl (fun h => by cases h) HB.out
    · rw [h] at x0
      have HK := Lib.hid h
      clear h
      clear KE KG
      by_cases hq : (l.length : Int) = 0
      · have q1 : ((l.length : Int) == 0) = true := by simpa using hq
        have HQ := Lib.hid hq
        clear hq
        go_wp2_with fail
        go_ret
        exact BPost.ret rfl (fun _ => shp0 (by rw [HK.out]; rfl) (nil_of HQ.out)) HB.out
      · have q1 : ((l.length : Int) == 0) = false := by simpa using hq
        clear hq
        go_wp2_with fail
        go_ret
        exact BPost.ret rfl (fun h => by cases h) HB.out
    · rw [h] at x0
      have HK := Lib.hid h
      clear h
      clear KE KG
      by_cases hq : (l.length : Int) = 0
      · have q1 : ((l.length : Int) == 0) = true := by simpa using hq
        have HQ := Lib.hid hq
        clear hq
        go_wp2_with fail
        go_ret
        exact BPost.ret rfl (fun _ => shp0 (by rw [HK.out]; rfl) (nil_of HQ.out)) HB.out
      · have q1 : ((l.length : Int) == 0) = false := by simpa using hq
        clear hq
        go_wp2_with fail
        go_ret
        exact BPost.ret rfl (fun h => by cases h) HB.out
    · rw [h] at x0
      have HK := Lib.hid h
      clear h
      clear KE KG
      by_cases hq : (l.length : Int) = 0
      · have q1 : ((l.length : Int) == 0) = true := by simpa using hq
        have HQ := Lib.hid hq
        clear hq
        go_wp2_with fail
        go_ret
        exact BPost.ret rfl (fun _ => shp0 (by rw [HK.out]; rfl) (nil_of HQ.out)) HB.out
      · have q1 : ((l.length : Int) == 0) = false := by simpa using hq
        clear hq
        go_wp2_with fail
        go_ret
        exact BPost.ret rfl (fun h => by cases h) HB.out
    · rw [h] at x0
      have HK := Lib.hid h
      clear h
      clear KE KG
      by_cases hq : (l.length : Int) = 0
      · have q1 : ((l.length : Int) == 0) = true := by simpa using hq
        have HQ := Lib.hid hq
        clear hq
        go_wp2_with fail
        go_ret
        exact BPost.ret rfl (fun _ => shp0 (by rw [HK.out]; rfl) (nil_of HQ.out)) HB.out
      · have q1 : ((l.length : Int) == 0) = false := by simpa using hq
        clear hq
        go_wp2_with fail
        go_ret
        exact BPost.ret rfl (fun h => by cases h) HB.out
    · rw [h] at x0
      have HK := Lib.hid h
      clear h
      clear KG
      rcases HBR.out.1 (.inl HK.out) with hf | hf
      · rw [hf] at x3
        have HF := Lib.hid hf
        clear hf
        by_cases hq : (l.length : Int) = 1
        · have q1 : ((l.length : Int) == 1) = true := by simpa using hq
          have HQ := Lib.hid hq
          clear hq
          go_wp2_with fail
          refine KE.out.mono ?_
          rintro e1 w1 hp
          have HP := Lib.hid ((hp.from_ HB.out).imp (Q := ShapeP es e l) fun hx => by unfold ShapeP; rw [HK.out, HF.out]; exact ⟨fun _ => s1_of HQ.out hx, fun h => (by cases h)⟩)
          obtain ⟨⟨b1, rfl, -⟩, -⟩ := hp
          go_wp2_with fail
          go_ret
          exact HP.out
        · have q1 : ((l.length : Int) == 1) = false := by simpa using hq
          clear hq
          go_wp2_with fail
          go_ret
          exact BPost.ret rfl (fun h => by cases h) HB.out
      · rw [hf] at x3
        have HF := Lib.hid hf
        clear hf
        by_cases hq : (l.length : Int) = 0
        · have q1 : ((l.length : Int) == 0) = true := by simpa using hq
          have HQ := Lib.hid hq
          clear hq
          go_wp2_with fail
          refine KE.out.mono ?_
          rintro e1 w1 hp
          have HP := Lib.hid ((hp.from_ HB.out).imp (Q := ShapeP es e l) fun hx => by unfold ShapeP; rw [HK.out, HF.out]; exact ⟨fun h => (by cases h), fun _ => nil_of HQ.out⟩)
          obtain ⟨⟨b1, rfl, -⟩, -⟩ := hp
          go_wp2_with fail
          go_ret
          exact HP.out
        · have q1 : ((l.length : Int) == 0) = false := by simpa using hq
          clear hq
          go_wp2_with fail
          go_ret
          exact BPost.ret rfl (fun h => by cases h) HB.out
    · rw [h] at x0
      have HK := Lib.hid h
      clear h
      clear KG
      by_cases hq : (l.length : Int) = 1
      · have q1 : ((l.length : Int) == 1) = true := by simpa using hq
        have HQ := Lib.hid hq
        clear hq
        go_wp2_with fail
        refine KE.out.mono ?_
        rintro e1 w1 hp
        have HP := Lib.hid ((hp.from_ HB.out).imp (Q := ShapeP es e l) fun hx => shp1 (by rw [HK.out]; rfl) (by rw [HK.out]; rfl) (s1_of HQ.out hx))
        obtain ⟨⟨b1, rfl, -⟩, -⟩ := hp
        go_wp2_with fail
        go_ret
        exact HP.out
      · have q1 : ((l.length : Int) == 1) = false := by simpa using hq
        clear hq
        go_wp2_with fail
        go_ret
        exact BPost.ret rfl (fun h => by cases h) HB.out
    · rw [h] at x0
      have HK := Lib.hid h
      clear h
      clear KG
      go_wp2_with fail
      refine KE.out.mono ?_
      rintro e1 w1 hp
      have HP := Lib.hid ((hp.from_ HB.out).imp (Q := ShapeP es e l) fun hx => by unfold ShapeP; rw [HK.out]; exact hx)
      obtain ⟨⟨b1, rfl, -⟩, -⟩ := hp
      go_wp2_with fail
      go_ret
      exact HP.out
    · rw [h] at x0
      have HK := Lib.hid h
      clear h
      clear KE
      go_wp2_with fail
      refine KG.out.mono ?_
      rintro e1 w1 hp
      have HP := Lib.hid ((hp.from_ HB.out).imp (Q := ShapeP es e l) fun hx => by unfold ShapeP; rw [HK.out]; exact hx)
      obtain ⟨⟨b1, rfl, -⟩, -⟩ := hp
      go_wp2_with fail
      go_ret
      exact HP.out
    · rw [h] at x0
      have HK := Lib.hid h
      clear h
      clear KE
      go_wp2_with fail
      refine KG.out.mono ?_
      rintro e1 w1 hp
      have HP := Lib.hid ((hp.from_ HB.out).imp (Q := ShapeP es e l) fun hx => by unfold ShapeP; rw [HK.out]; exact hx)
      obtain ⟨⟨b1, rfl, -⟩, -⟩ := hp
      go_wp2_with fail
      go_ret
      exact HP.out
    · rw [h] at x0
      have HK := Lib.hid h
      clear h
      clear KE
      go_wp2_with fail
      refine KG.out.mono ?_
      rintro e1 w1 hp
      have HP := Lib.hid ((hp.from_ HB.out).imp (Q := ShapeP es e l) fun hx => by unfold ShapeP; rw [HK.out]; exact hx)
      obtain ⟨⟨b1, rfl, -⟩, -⟩ := hp
      go_wp2_with fail
      go_ret
      exact HP.out
    · rw [h] at x0
      have HK := Lib.hid h
      clear h
      clear KG
      by_cases hq : (l.length : Int) = 2
      · have q1 : ((l.length : Int) == 2) = true := by simpa using hq
        have HQ := Lib.hid hq
        clear hq
        go_wp2_with fail
        refine KE.out.mono ?_
        rintro e1 w1 hp
        have HP := Lib.hid ((hp.from_ HB.out).imp (Q := ShapeP es e l) fun hx => by unfold ShapeP; rw [HK.out]; exact s2_of HQ.out hx)
        obtain ⟨⟨b1, rfl, -⟩, -⟩ := hp
        go_wp2_with fail
        go_ret
        exact HP.out
      · have q1 : ((l.length : Int) == 2) = false := by simpa using hq
        clear hq
        go_wp2_with fail
        go_ret
        exact BPost.ret rfl (fun h => by cases h) HB.out
    · rw [h] at x0
      have HK := Lib.hid h
      clear h
      clear KG
      by_cases hq : (l.length : Int) = 1
      · have q1 : ((l.length : Int) == 1) = true := by simpa using hq
        have HQ := Lib.hid hq
        clear hq
        go_wp2_with fail
        refine KE.out.mono ?_
        rintro e1 w1 hp
        have HP := Lib.hid ((hp.from_ HB.out).imp (Q := ShapeP es e l) fun hx => shp1 (by rw [HK.out]; rfl) (by rw [HK.out]; rfl) (s1_of HQ.out hx))
        obtain ⟨⟨b1, rfl, -⟩, -⟩ := hp
        go_wp2_with fail
        go_ret
        exact HP.out
      · have q1 : ((l.length : Int) == 1) = false := by simpa using hq
        clear hq
        go_wp2_with fail
        go_ret
        exact BPost.ret rfl (fun h => by cases h) HB.out
    · rw [h] at x0
      have HK := Lib.hid h
      clear h
      clear KE
      go_wp2_with fail
      refine KG.out.mono ?_
      rintro e1 w1 hp
      have HP := Lib.hid ((hp.from_ HB.out).imp (Q := ShapeP es e l) fun hx => by unfold ShapeP; rw [HK.out]; exact hx)
      obtain ⟨⟨b1, rfl, -⟩, -⟩ := hp
      go_wp2_with fail
      go_ret
      exact HP.out
    · rw [h] at x0
      have HK := Lib.hid h
      clear h
      clear KE
      go_wp2_with fail
      refine KG.out.mono ?_
      rintro e1 w1 hp
      have HP := Lib.hid ((hp.from_ HB.out).imp (Q := ShapeP es e l) fun hx => by unfold ShapeP; rw [HK.out]; exact hx)
      obtain ⟨⟨b1, rfl, -⟩, -⟩ := hp
      go_wp2_with fail
      go_ret
      exact HP.out
    · rw [h] at x0
      have HK := Lib.hid h
      clear h
      clear KE
      go_wp2_with fail
      refine KG.out.mono ?_
      rintro e1 w1 hp
      have HP := Lib.hid ((hp.from_ HB.out).imp (Q := ShapeP es e l) fun hx => by unfold ShapeP; rw [HK.out]; exact hx)
      obtain ⟨⟨b1, rfl, -⟩, -⟩ := hp
      go_wp2_with fail
      go_ret
      exact HP.out
    · rw [h] at x0
      have HK := Lib.hid h
      clear h
      clear KE
      go_wp2_with fail
      refine KG.out.mono ?_
      rintro e1 w1 hp
      have HP := Lib.hid ((hp.from_ HB.out).imp (Q := ShapeP es e l) fun hx => by unfold ShapeP; rw [HK.out]; exact hx)
      obtain ⟨⟨b1, rfl, -⟩, -⟩ := hp
      go_wp2_with fail
      go_ret
      exact HP.out
    · rw [h] at x0
      have HK := Lib.hid h
      clear h
      clear KG
      by_cases h2 : (l.length : Int) = 2
      · have q1 : ((l.length : Int) == 2) = true := by simpa using h2
        have HQ := Lib.hid h2
        clear h2
        go_wp2_with fail
        refine KE.out.mono ?_
        rintro e1 w1 hp
        have HP := Lib.hid ((hp.from_ HB.out).imp (Q := ShapeP es e l) fun hx => by unfold ShapeP; rw [HK.out]; exact .inl ⟨HQ.out, hx⟩)
        obtain ⟨⟨b1, rfl, -⟩, -⟩ := hp
        go_wp2_with fail
        go_ret
        exact HP.out
      · have q1 : ((l.length : Int) == 2) = false := by simpa using h2
        clear h2
        by_cases hq : (l.length : Int) = 3
        · have q1 : ((l.length : Int) == 3) = true := by simpa using hq
          have HQ := Lib.hid hq
          clear hq
          go_wp2_with fail
          refine KE.out.mono ?_
          rintro e1 w1 hp
          have HP := Lib.hid ((hp.from_ HB.out).imp (Q := ShapeP es e l) fun hx => by unfold ShapeP; rw [HK.out]; exact .inr ⟨HQ.out, hx⟩)
          obtain ⟨⟨b1, rfl, -⟩, -⟩ := hp
          go_wp2_with fail
          go_ret
          exact HP.out
        · have q1 : ((l.length : Int) == 3) = false := by simpa using hq
          clear hq
          go_wp2_with fail
          go_ret
          exact BPost.ret rfl (fun h => by cases h) HB.out
    · rw [h] at x0
      have HK := Lib.hid h
      clear h
      clear KG
      by_cases hq : (l.length : Int) = 1
      · have q1 : ((l.length : Int) == 1) = true := by simpa using hq
        have HQ := Lib.hid hq
        clear hq
        go_wp2_with fail
        refine KE.out.mono ?_
        rintro e1 w1 hp
        have HP := Lib.hid ((hp.from_ HB.out).imp (Q := ShapeP es e l) fun hx => shp1 (by rw [HK.out]; rfl) (by rw [HK.out]; rfl) (s1_of HQ.out hx))
        obtain ⟨⟨b1, rfl, -⟩, -⟩ := hp
        go_wp2_with fail
        go_ret
        exact HP.out
      · have q1 : ((l.length : Int) == 1) = false := by simpa using hq
        clear hq
        go_wp2_with fail
        go_ret
        exact BPost.ret rfl (fun h => by cases h) HB.out
    · rw [h] at x0
      have HK := Lib.hid h
      clear h
      clear KG
      by_cases hq : (l.length : Int) = 2
      · have q1 : ((l.length : Int) == 2) = true := by simpa using hq
        have HQ := Lib.hid hq
        clear hq
        go_wp2_with fail
        refine KE.out.mono ?_
        rintro e1 w1 hp
        have HP := Lib.hid ((hp.from_ HB.out).imp (Q := ShapeP es e l) fun hx => by unfold ShapeP; rw [HK.out]; exact s2_of HQ.out hx)
        obtain ⟨⟨b1, rfl, -⟩, -⟩ := hp
        go_wp2_with fail
        go_ret
        exact HP.out
      · have q1 : ((l.length : Int) == 2) = false := by simpa using hq
        clear hq
        go_wp2_with fail
        go_ret
        exact BPost.ret rfl (fun h => by cases h) HB.out
    · rw [h] at x0
      have HK := Lib.hid h
      clear h
      clear KG
      by_cases hq : (l.length : Int) = 1
      · have q1 : ((l.length : Int) == 1) = true := by simpa using hq
        have HQ := Lib.hid hq
        clear hq
        go_wp2_with fail
        refine KE.out.mono ?_
        rintro e1 w1 hp
        have HP := Lib.hid ((hp.from_ HB.out).imp (Q := ShapeP es e l) fun hx => shp1 (by rw [HK.out]; rfl) (by rw [HK.out]; rfl) (s1_of HQ.out hx))
        obtain ⟨⟨b1, rfl, -⟩, -⟩ := hp
        go_wp2_with fail
        go_ret
        exact HP.out
      · have q1 : ((l.length : Int) == 1) = false := by simpa using hq
        clear hq
        go_wp2_with fail
        go_ret
        exact BPost.ret rfl (fun h => by cases h) HB.out
    · rw [h] at x0
      have HK := Lib.hid h
      clear h
      clear KG
      rcases HBR.out.1 (.inr (.inr (.inl HK.out))) with hf | hf
      · rw [hf] at x3
        have HF := Lib.hid hf
        clear hf
        by_cases hq : (l.length : Int) = 2
        · have q1 : ((l.length : Int) == 2) = true := by simpa using hq
          have HQ := Lib.hid hq
          clear hq
          go_wp2_with fail
          refine KE.out.mono ?_
          rintro e1 w1 hp
          have HP := Lib.hid ((hp.from_ HB.out).imp (Q := ShapeP es e l) fun hx => by unfold ShapeP; rw [HK.out, HF.out]; exact ⟨HQ.out, hx⟩)
          obtain ⟨⟨b1, rfl, -⟩, -⟩ := hp
          go_wp2_with fail
          go_ret
          exact HP.out
        · have q1 : ((l.length : Int) == 2) = false := by simpa using hq
          clear hq
          go_wp2_with fail
          go_ret
          exact BPost.ret rfl (fun h => by cases h) HB.out
      · rw [hf] at x3
        have HF := Lib.hid hf
        clear hf
        by_cases hq : (l.length : Int) = 3
        · have q1 : ((l.length : Int) == 3) = true := by simpa using hq
          have HQ := Lib.hid hq
          clear hq
          go_wp2_with fail
          refine KE.out.mono ?_
          rintro e1 w1 hp
          have HP := Lib.hid ((hp.from_ HB.out).imp (Q := ShapeP es e l) fun hx => by unfold ShapeP; rw [HK.out, HF.out]; exact ⟨HQ.out, hx⟩)
          obtain ⟨⟨b1, rfl, -⟩, -⟩ := hp
          go_wp2_with fail
          go_ret
          exact HP.out
        · have q1 : ((l.length : Int) == 3) = false := by simpa using hq
          clear hq
          go_wp2_with fail
          go_ret
          exact BPost.ret rfl (fun h => by cases h) HB.out
    · rw [h] at x0
      have HK := Lib.hid h
      clear h
      clear KE KG
      by_cases hq : (l.length : Int) = 0
      · have q1 : ((l.length : Int) == 0) = true := by simpa using hq
        have HQ := Lib.hid hq
        clear hq
        go_wp2_with fail
        go_ret
        exact BPost.ret rfl (fun _ => shp0 (by rw [HK.out]; rfl) (nil_of HQ.out)) HB.out
      · have q1 : ((l.length : Int) == 0) = false := by simpa using hq
        clear hq
        go_wp2_with fail
        go_ret
        exact BPost.ret rfl (fun h => by cases h) HB.out
    · rw [h] at x0
      have HK := Lib.hid h
      clear h
      clear KE KG
      by_cases hq : (l.length : Int) = 0
      · have q1 : ((l.length : Int) == 0) = true := by simpa using hq
        have HQ := Lib.hid hq
        clear hq
        go_wp2_with fail
        go_ret
        exact BPost.ret rfl (fun _ => shp0 (by rw [HK.out]; rfl) (nil_of HQ.out)) HB.out
      · have q1 : ((l.length : Int) == 0) = false := by simpa using hq
        clear hq
        go_wp2_with fail
        go_ret
        exact BPost.ret rfl (fun h => by cases h) HB.out
    · rw [h] at x0
      have HK := Lib.hid h
      clear h
      clear KE KG
      by_cases hq : (l.length : Int) = 0
      · have q1 : ((l.length : Int) == 0) = true := by simpa using hq
        have HQ := Lib.hid hq
        clear hq
        go_wp2_with fail
        go_ret
        exact BPost.ret rfl (fun _ => shp0 (by rw [HK.out]; rfl) (nil_of HQ.out)) HB.out
      · have q1 : ((l.length : Int) == 0) = false := by simpa using hq
        clear hq
        go_wp2_with fail
        go_ret
        exact BPost.ret rfl (fun h => by cases h) HB.out
    · rw [h] at x0
      have HK := Lib.hid h
      clear h
      clear KE
      go_wp2_with fail
      refine KG.out.mono ?_
      rintro e1 w1 hp
      have HP := Lib.hid ((hp.from_ HB.out).imp (Q := ShapeP es e l) fun hx => by unfold ShapeP; rw [HK.out]; exact hx)
      obtain ⟨⟨b1, rfl, -⟩, -⟩ := hp
      go_wp2_with fail
      go_ret
      exact HP.out
    · rw [h] at x0
      have HK := Lib.hid h
      clear h
      clear KG
      by_cases hq : (l.length : Int) = 1
      · have q1 : ((l.length : Int) == 1) = true := by simpa using hq
        have HQ := Lib.hid hq
        clear hq
        go_wp2_with fail
        refine KE.out.mono ?_
        rintro e1 w1 hp
        have HP := Lib.hid ((hp.from_ HB.out).imp (Q := ShapeP es e l) fun hx => shp1 (by rw [HK.out]; rfl) (by rw [HK.out]; rfl) (s1_of HQ.out hx))
        obtain ⟨⟨b1, rfl, -⟩, -⟩ := hp
        go_wp2_with fail
        go_ret
        exact HP.out
      · have q1 : ((l.length : Int) == 1) = false := by simpa using hq
        clear hq
        go_wp2_with fail
        go_ret
        exact BPost.ret rfl (fun h => by cases h) HB.out
    · rw [h] at x0
      have HK := Lib.hid h
      clear h
      clear KE KG
      by_cases hq : (l.length : Int) = 0
      · have q1 : ((l.length : Int) == 0) = true := by simpa using hq
        have HQ := Lib.hid hq
        clear hq
        go_wp2_with fail
        go_ret
        exact BPost.ret rfl (fun _ => shp0 (by rw [HK.out]; rfl) (nil_of HQ.out)) HB.out
      · have q1 : ((l.length : Int) == 0) = false := by simpa using hq
        clear hq
        go_wp2_with fail
        go_ret
        exact BPost.ret rfl (fun h => by cases h) HB.out
    · rw [h] at x0
      have HK := Lib.hid h
      clear h
      clear KE
      go_wp2_with fail
      refine KG.out.mono ?_
      rintro e1 w1 hp
      have HP := Lib.hid ((hp.from_ HB.out).imp (Q := ShapeP es e l) fun hx => by unfold ShapeP; rw [HK.out]; exact hx)
      obtain ⟨⟨b1, rfl, -⟩, -⟩ := hp
      go_wp2_with fail
      go_ret
      exact HP.out
    · rw [h] at x0
      have HK := Lib.hid h
      clear h
      clear KG
      by_cases hq : (l.length : Int) ≤ 1
      · have HQ := Lib.hid hq
        go_wp2_with fail
        refine KE.out.mono ?_
        rintro e1 w1 hp
        have HP := Lib.hid ((hp.from_ HB.out).imp (Q := ShapeP es e l) fun hx => by unfold ShapeP; rw [HK.out]; exact s33_of HQ.out hx)
        obtain ⟨⟨b1, rfl, -⟩, -⟩ := hp
        go_wp2_with fail
        go_ret
        exact HP.out
      · go_wp2_with fail
        go_ret
        exact BPost.ret rfl (fun h => by cases h) HB.out
    · rw [h] at x0
      have HK := Lib.hid h
      clear h
      clear KG
      by_cases hq : (l.length : Int) = 1
      · have q1 : ((l.length : Int) == 1) = true := by simpa using hq
        have HQ := Lib.hid hq
        clear hq
        go_wp2_with fail
        refine KE.out.mono ?_
        rintro e1 w1 hp
        have HP := Lib.hid ((hp.from_ HB.out).imp (Q := ShapeP es e l) fun hx => shp1 (by rw [HK.out]; rfl) (by rw [HK.out]; rfl) (s1_of HQ.out hx))
        obtain ⟨⟨b1, rfl, -⟩, -⟩ := hp
        go_wp2_with fail
        go_ret
        exact HP.out
      · have q1 : ((l.length : Int) == 1) = false := by simpa using hq
        clear hq
        go_wp2_with fail
        go_ret
        exact BPost.ret rfl (fun h => by cases h) HB.out
    · rw [h] at x0
      have HK := Lib.hid h
      clear h
      clear KE
      go_wp2_with fail
      refine KG.out.mono ?_
      rintro e1 w1 hp
      have HP := Lib.hid ((hp.from_ HB.out).imp (Q := ShapeP es e l) fun hx => by unfold ShapeP; rw [HK.out]; exact hx)
      obtain ⟨⟨b1, rfl, -⟩, -⟩ := hp
      go_wp2_with fail
      go_ret
      exact HP.out
    · rw [h] at x0
      have HK := Lib.hid h
      clear h
      clear KE KG
      by_cases hq : (l.length : Int) = 1
      · have q1 : ((l.length : Int) == 1) = true := by simpa using hq
        have HQ := Lib.hid hq
        clear hq
        have HB1 := Lib.hid (show Below wc.heap.size wc (wc.alloc (.cells #[.int .i64 32] 3)) from belowS_alloc (Below.refl _ _) _)
        have KD := Lib.hid (kinds_any (some ⟨b, o, none⟩) n c es B (wc.alloc (.cells #[.int .i64 32] 3)) (HH.out.below (HB.out.trans (HB1.out.mono HB.out.size)) hB) (Nat.le_trans (Nat.le_trans hB HB.out.size) HB1.out.size) hn A2 c2' l (HKO.out.1.below HB1.out) HKO.out.2.1 HLL.out (some ⟨wc.heap.size, 0, none⟩) 1 [32] (KS.new wc _ _ rfl) (by simp))
        go_wp2_with fail
        refine KD.out.mono ?_
        rintro e1 w1 hp
        have HP := Lib.hid ((hp.from_ (HB.out.trans (HB1.out.mono HB.out.size))).imp (Q := ShapeP es e l) fun hx => by unfold ShapeP; rw [HK.out]; exact s36_of HQ.out hx)
        obtain ⟨⟨b1, rfl, -⟩, -⟩ := hp
        go_wp2_with fail
        go_ret
        exact HP.out
      · have q1 : ((l.length : Int) == 1) = false := by simpa using hq
        clear hq
        go_wp2_with fail
        go_ret
        exact BPost.ret rfl (fun h => by cases h) HB.out
    · rw [h] at x0
      have HK := Lib.hid h
      clear h
      clear KG
      rcases HBR.out.1 (.inr (.inr (.inr (.inl HK.out)))) with hf | hf
      · rw [hf] at x3
        have HF := Lib.hid hf
        clear hf
        by_cases hq : (l.length : Int) = 1
        · have q1 : ((l.length : Int) == 1) = true := by simpa using hq
          have HQ := Lib.hid hq
          clear hq
          go_wp2_with fail
          refine KE.out.mono ?_
          rintro e1 w1 hp
          have HP := Lib.hid ((hp.from_ HB.out).imp (Q := ShapeP es e l) fun hx => by unfold ShapeP; rw [HK.out, HF.out]; exact ⟨HQ.out, hx⟩)
          obtain ⟨⟨b1, rfl, -⟩, -⟩ := hp
          go_wp2_with fail
          go_ret
          exact HP.out
        · have q1 : ((l.length : Int) == 1) = false := by simpa using hq
          clear hq
          go_wp2_with fail
          go_ret
          exact BPost.ret rfl (fun h => by cases h) HB.out
      · rw [hf] at x3
        have HF := Lib.hid hf
        clear hf
        by_cases hq : (l.length : Int) = 2
        · have q1 : ((l.length : Int) == 2) = true := by simpa using hq
          have HQ := Lib.hid hq
          clear hq
          go_wp2_with fail
          refine KE.out.mono ?_
          rintro e1 w1 hp
          have HP := Lib.hid ((hp.from_ HB.out).imp (Q := ShapeP es e l) fun hx => by unfold ShapeP; rw [HK.out, HF.out]; exact ⟨HQ.out, hx⟩)
          obtain ⟨⟨b1, rfl, -⟩, -⟩ := hp
          go_wp2_with fail
          go_ret
          exact HP.out
        · have q1 : ((l.length : Int) == 2) = false := by simpa using hq
          clear hq
          go_wp2_with fail
          go_ret
          exact BPost.ret rfl (fun h => by cases h) HB.out
    · rw [h] at x0
      have HK := Lib.hid h
      clear h
      clear KG
      by_cases hq : (l.length : Int) = 1
      · have q1 : ((l.length : Int) == 1) = true := by simpa using hq
        have HQ := Lib.hid hq
        clear hq
        go_wp2_with fail
        refine KE.out.mono ?_
        rintro e1 w1 hp
        have HP := Lib.hid ((hp.from_ HB.out).imp (Q := ShapeP es e l) fun hx => shp1 (by rw [HK.out]; rfl) (by rw [HK.out]; rfl) (s1_of HQ.out hx))
        obtain ⟨⟨b1, rfl, -⟩, -⟩ := hp
        go_wp2_with fail
        go_ret
        exact HP.out
      · have q1 : ((l.length : Int) == 1) = false := by simpa using hq
        clear hq
        go_wp2_with fail
        go_ret
        exact BPost.ret rfl (fun h => by cases h) HB.out
    · rw [h] at x0
      have HK := Lib.hid h
      clear h
      clear KG
      by_cases hq : (l.length : Int) = 1
      · have q1 : ((l.length : Int) == 1) = true := by simpa using hq
        have HQ := Lib.hid hq
        clear hq
        go_wp2_with fail
        refine KE.out.mono ?_
        rintro e1 w1 hp
        have HP := Lib.hid ((hp.from_ HB.out).imp (Q := ShapeP es e l) fun hx => shp1 (by rw [HK.out]; rfl) (by rw [HK.out]; rfl) (s1_of HQ.out hx))
        obtain ⟨⟨b1, rfl, -⟩, -⟩ := hp
        go_wp2_with fail
        go_ret
        exact HP.out
      · have q1 : ((l.length : Int) == 1) = false := by simpa using hq
        clear hq
        go_wp2_with fail
        go_ret
        exact BPost.ret rfl (fun h => by cases h) HB.out
    · clear KE
      have q1 : (e.kind == 1) = false := by simp; omega
      have q2 : (e.kind == 2) = false := by simp; omega
      have q3 : (e.kind == 3) = false := by simp; omega
      have q4 : (e.kind == 4) = false := by simp; omega
      have q5 : (e.kind == 5) = false := by simp; omega
      have q6 : (e.kind == 6) = false := by simp; omega
      have q7 : (e.kind == 7) = false := by simp; omega
      have q8 : (e.kind == 8) = false := by simp; omega
      have q9 : (e.kind == 9) = false := by simp; omega
      have q10 : (e.kind == 10) = false := by simp; omega
      have q11 : (e.kind == 11) = false := by simp; omega
      have q15 : (e.kind == 15) = false := by simp; omega
      have q16 : (e.kind == 16) = false := by simp; omega
      have q21 : (e.kind == 21) = false := by simp; omega
      have q22 : (e.kind == 22) = false := by simp; omega
      have q23 : (e.kind == 23) = false := by simp; omega
      have q24 : (e.kind == 24) = false := by simp; omega
      have q25 : (e.kind == 25) = false := by simp; omega
      have q26 : (e.kind == 26) = false := by simp; omega
      have q27 : (e.kind == 27) = false := by simp; omega
      have q28 : (e.kind == 28) = false := by simp; omega
      have q30 : (e.kind == 30) = false := by simp; omega
      have q31 : (e.kind == 31) = false := by simp; omega
      have q33 : (e.kind == 33) = false := by simp; omega
      have q34 : (e.kind == 34) = false := by simp; omega
      have q36 : (e.kind == 36) = false := by simp; omega
      have q37 : (e.kind == 37) = false := by simp; omega
      have q38 : (e.kind == 38) = false := by simp; omega
      have q39 : (e.kind == 39) = false := by simp; omega
      have HO : Hid (GreatP es e l → ShapeP es e l) := Lib.hid (fun hx => by
        unfold ShapeP
        rw [show inL0 e.kind = false by unfold inL0; simp; omega, show inL1 e.kind = false by unfold inL1; simp; omega]
        rw [if_neg (by decide), if_neg (by decide), if_neg (by omega), if_neg (by omega), if_neg (by omega), if_neg (by omega), if_neg (by omega), if_neg (by omega), if_neg (by omega), if_neg (by omega), if_neg (by omega)]
        exact hx)
      clear h
      generalize e.kind = ek at *
      go_wp2_with fail
      refine KG.out.mono ?_
      rintro e1 w1 hp
      have HP := Lib.hid ((hp.from_ HB.out).imp (Q := ShapeP es e l) fun hx => HO.out hx)
      obtain ⟨⟨b1, rfl, -⟩, -⟩ := hp
      go_wp2_with fail
      go_ret
      exact HP.out
end Go.Proofs.Ytdhhdnopilfifaa
