/-
  The builder: function.
-/
import Derived.Test.YtdhhdnopilfifaaPrAssert
import Derived.Deep.DeepCutAuto
namespace Go.Proofs.Ytdhhdnopilfifaa
open Go.RowKit

/-- Each expression from a place on is made as node says. -/
def NodeA (X : Cx) (m : Nat) : Prop := ∀ k, m ≤ k → Ex X.es k → NodeC X k
/-- A function is answered, and its body is a node. -/
def FnPost (X : Cx) (w : World) (e : Ending) (w' : World) : Prop :=
  (∃ g t g2, e = .returned (.pointer (some ⟨g, 0, none⟩)) ∧ w'.cell? ⟨g, 2, none⟩ = some (.iface t (.pointer (some ⟨g2, 0, none⟩)))) ∧ X.Go w w'
theorem info_par : (Try.prog.info? 200).map (fun i => (i.zero, i.size, i.bytes)) = some (some (.agg #[.slice none 0 0, .string ByteArray.empty, .slice none 0 0, .slice none 0 0, .nilIface, .pointer none, .string ByteArray.empty, .int .i64 0, .int .i64 0, .int .i64 0, .int .i64 0]), 11, 160) := by kernel_rfl
def fnCells (v : Value) : Array Value := #[.slice none 0 0, .slice none 0 0, .nilIface, v, .slice none 0 0, .pointer none, .slice none 0 0, .pointer none, .string ByteArray.empty, .int .i64 0, .int .i64 0, .int .i64 0, .int .i64 0, .bool false]
theorem keepR {w w' : World} (hb : Below w.heap.size w w') {p1 p2 p3 p4 p5 p6 : Addr} {u1 u2 u3 u4 u5 u6 : Value} (c1 : w.cell? p1 = some u1) (c2 : w.cell? p2 = some u2) (c3 : w.cell? p3 = some u3) (c4 : w.cell? p4 = some u4) (c5 : w.cell? p5 = some u5) (c6 : w.cell? p6 = some u6) :
    (Below w.heap.size w w' ∧ w'.cell? p1 = some u1 ∧ w'.cell? p2 = some u2 ∧ w'.cell? p3 = some u3 ∧ w'.cell? p4 = some u4 ∧ w'.cell? p5 = some u5) ∧ w'.cell? p6 = some u6 :=
  ⟨keep5 hb c1 c2 c3 c4 c5, (hb.cell (World.block_lt_of_cell? w p6 c6)).trans c6⟩
/-- What stands of a node at a place. -/
theorem at_facts (X : Cx) (hok : X.OK) (w : World) (h : X.Inv w) (k : Nat) (hk : k < X.n) : ∃ e, X.es[k]? = some e ∧ BareP e ∧ ShapeP X.es e (X.kl k) ∧ (∀ j ∈ X.kl k, j < X.n) ∧ (X.kl k).length ≤ 1000000 ∧ (∀ j ∈ X.kl k, k < j) ∧
    w.cell? ⟨X.b, X.o + k * 5, none⟩ = some (.int .i64 e.kind) ∧ w.cell? ⟨X.b, X.o + k * 5 + 1, none⟩ = some (.int .i64 e.op) ∧ w.cell? ⟨X.b, X.o + k * 5 + 2, none⟩ = some (.string e.text) ∧ w.cell? ⟨X.b, X.o + k * 5 + 3, none⟩ = some (.int .i64 e.flag) ∧ w.cell? ⟨X.b, X.o + k * 5 + 4, none⟩ = some (.int .i64 e.size) ∧
    w.cell? ⟨X.bB, 0, none⟩ = some (.slice (some ⟨X.b, X.o, none⟩) X.n X.c) ∧ X.b < w.heap.size ∧ (∀ w' : World, Below w.heap.size w w' → Calls Try.prog 41 #[.pointer (some ⟨X.bB, 0, none⟩), .int .i64 k] w' (KdPost (X.kl k) w')) := by
  obtain ⟨h400, ht, hlen⟩ := hok
  have hf := ht.1 k (by omega)
  obtain ⟨b', o', e, hA, hbB, hek, c0, c1, c2, c3, c4⟩ := h.1.at_ hk
  cases hA
  have hs := ht.2 k e hek
  have hf2 := hf
  obtain ⟨x, hx, g1, g2, g3⟩ := hf2
  refine ⟨e, hek, hs.1, hs.2, fun j hj => by have := (g3.mem j hj).2; omega, by have := g3.len; omega, fun j hj => (g3.mem j hj).1, c0, c1, c2, c3, c4, h.2.2.2.1.cell 0, by have := h.2.1; omega, fun w' hb => bkids_any X w' (h.below hb) h400 k _ hf⟩
/-- The function so far: its box, the row of its parameters. -/
def FnI (X : Cx) (w wr : World) (u : Value) (j : Nat) : Prop := Blk wr w.heap.size 198 (fnCells u) ∧ (∃ xs, wr.ownsRow (w.heap.size + 1) 200 11 u j xs) ∧ X.Go w wr
def parCells (tx : ByteArray) (d : Value) : Array Value := #[.slice none 0 0, .string tx, .slice none 0 0, .slice none 0 0, d, .pointer none, .string ⟨#[]⟩, .int .i64 0, .int .i64 0, .int .i64 0, .int .i64 0]
theorem grownBy_set2 (w : World) (p : Addr) (v : Value) : w.grownBy (w.setCell p v) (some p.block) :=
  ⟨rfl, rfl, rfl, by simp [World.setCell], fun i _ hi => Below.heap_setCell w p v i (fun e => hi (by rw [e]))⟩
theorem fnI_step {X : Cx} {w W2 w3 : World} {u v : Value} {j : Nat} {xs ys : List Value} {ob : Obj} (hi : X.Inv w) (HG : X.Go w W2) (HR : W2.ownsRow (w.heap.size + 1) 200 11 u j xs) (HB : Blk W2 w.heap.size 198 (fnCells u))
    (hown : w3.ownsRow (w.heap.size + 1) 200 11 v (j + 1) ys) (hgrow : (W2.alloc ob).drew.grownBy w3 u.ownBlock) : FnI X w (w3.setCell ⟨w.heap.size, 3, none⟩ v) v (j + 1) := by
  have hz : w.heap.size ≤ W2.heap.size := HG.1.size
  have h7 : (W2.alloc ob).drew.heap.size = W2.heap.size + 1 := by show (W2.alloc ob).heap.size = _; simp
  have hb : Below w.heap.size W2 w3 := ((Below.refl w.heap.size W2).alloc hz ob).drew.grown hgrow (by omega) (fun k hk => Nat.le_of_succ_le (HR.lt k hk).1)
  have hB3 := (HB.alloc ob).drew.grown hgrow (fun e0 => own_blk_ne HR HB (by decide) e0.symm)
  refine ⟨?_, ⟨ys, hown.kept (grownBy_set2 w3 _ v) (.inr (own_blk_ne hown hB3 (by decide)))⟩, (HG.low hi hb).set hi (Nat.le_refl _) v⟩
  have := hB3.set_ 3 v
  simpa [fnCells] using this
set_option maxRecDepth 100000 in
set_option maxHeartbeats 3200000 in
theorem function_any (X : Cx) (hok : X.OK) (w : World) (h : X.Inv w) (m : Nat) (hN : NodeA X m) (A2 : Option Addr) (c2 : Nat) (r : List Nat) (a : Nat) (hk : KidsOK w X.n A2 c2 (r ++ [a])) (hr : ∀ k ∈ r, Kd X.es [33] k) (ha : Ex X.es a) (hm : ∀ k ∈ r ++ [a], m ≤ k) :
    Calls Try.prog 53 #[.pointer (some ⟨X.bB, 0, none⟩), .slice A2 (r.length + 1 : Nat) c2] w (FnPost X w) := by
  obtain ⟨hl1, hl2, hl3⟩ := h.lts
  have H := Lib.hid h
  have HK := Lib.hid hk
  have HN := Lib.hid hN
  have HR := Lib.hid hr
  have HM := Lib.hid hm
  obtain ⟨xa, -, KA⟩ := hN a (hm a (by simp)) ha
  have KKA := Lib.hid KA
  obtain ⟨i0, hi, hz, hsz, hbb⟩ := info_parts info_par
  have hrl : r.length + 1 ≤ 1000000 := by have := hk.2.2.1; simpa using this
  have hsl : (r.length + 1 : Nat) ≤ c2 := by have := hk.2.2.2; simpa using this
  obtain ⟨g, off, rfl, hgl, -, -⟩ := hk.cell (j := r.length) (k := a) (by simp)
  have wr1 : IntKind.i64.wrap ((r.length : Nat) : Int) = (r.length : Nat) := IntWalk.i64_in _ (by omega)
  clear h hk hN KA ha
  go_enter Try.func53, Try.ntmps53
  go_wp2_with fail
  go_loopw [19] (fun t wr => ∃ j : Nat, j ≤ r.length ∧ t = .int .i64 j ∧ ∃ u, Hid (FnI X w wr u j)) (fun t _ => r.length - (intOf t).toNat)
  case atStart => exact ⟨0, Nat.zero_le _, rfl, _, Lib.hid ⟨Blk.new _ _ _, ⟨[], World.ownsRow_nil _ _ _ _⟩, (H.out.go (Below.refl _ _)).alloc _⟩⟩
  case round =>
    obtain ⟨j, hj, rfl, u, HI⟩ := hrel
    obtain ⟨hbx, ⟨xs, hrow⟩, hgo⟩ := HI.out
    have HRW := Lib.hid hrow
    have HG := Lib.hid hgo
    have HBX := Lib.hid hbx
    have hzw : w.heap.size < wr.heap.size := hbx.lt
    clear hrow hgo hbx
    by_cases hlt : j < r.length
    · have hg := List.getElem?_eq_getElem hlt
      have hmm := List.getElem_mem hlt
      generalize r[j] = k at *
      have hkr := HR.out k hmm
      obtain ⟨g', off', hA, hgl2, hc, hkn⟩ := (HG.out.kids H.out HK.out).cell (j := j) (k := k) (by rw [List.getElem?_append_left hlt]; exact hg)
      cases hA
      obtain ⟨e, hek, hbare, hsh, hml, hll, hgt, c0, c1, c2', c3, c4, b0, hbw, KB0⟩ := at_facts X hok wr HG.out.2 k hkn
      have KB := Lib.hid KB0
      have HML := Lib.hid hml
      have HLL := Lib.hid hll
      have HSH := Lib.hid hsh
      have HGT := Lib.hid hgt
      have HEK := Lib.hid hek
      clear KB0 hml hll hsh hgt hek hbare
      generalize X.kl k = l at *
      go_upto_region 5 with fail
      go_cut [8, 9] (fun s8 s9 wx => ∃ (g : Nat) (A3 : Option Addr) (c3 : Nat), s8 = .pointer (some ⟨g, 0, none⟩) ∧ s9 = .slice A3 l.length c3 ∧ Hid (ShI X.n e l wr wx g A3 c3))
      case first =>
        go_region_held3 (fun w' => (Below wr.heap.size wr w' ∧ w'.cell? ⟨X.b, X.o + k * 5, none⟩ = some (.int .i64 e.kind) ∧ w'.cell? ⟨X.b, X.o + k * 5 + 1, none⟩ = some (.int .i64 e.op) ∧ w'.cell? ⟨X.b, X.o + k * 5 + 2, none⟩ = some (.string e.text) ∧ w'.cell? ⟨X.b, X.o + k * 5 + 3, none⟩ = some (.int .i64 e.flag) ∧ w'.cell? ⟨X.b, X.o + k * 5 + 4, none⟩ = some (.int .i64 e.size)) ∧ w'.cell? ⟨X.bB, 0, none⟩ = some (.slice (some ⟨X.b, X.o, none⟩) X.n X.c))
          ((refine keepR ?_ c0 c1 c2' c3 c4 b0; repeat (first | with_reducible exact Below.refl _ _ | with_reducible exact hk9 | with_reducible apply Below.drew | with_reducible apply belowS_alloc | (with_reducible refine belowS_set ?_ (Nat.le_refl _) _))))
          (first
            | (go_at_call 41; refine (KB.out wr.drew (Below.refl _ _).drew).mono ?_; rintro e9 w9 ⟨⟨A9, c9, rfl, hr9⟩, hb9⟩; have hk9 : Below wr.heap.size wr w9 := below_of1 hb9)
            | (go_at_call 41; refine (KB.out (wr.alloc (.cells zeroA 26)).drew (belowS_alloc (Below.refl _ _) _).drew).mono ?_; rintro e9 w9 ⟨⟨A9, c9, rfl, hr9⟩, hb9⟩; have hk9 : Below wr.heap.size wr w9 := below_of2 hb9; have hN := blk_of2 hb9; have hbs : wr.heap.size + 1 ≤ (wr.alloc (.cells zeroA 26)).drew.heap.size := (by show wr.heap.size + 1 ≤ (wr.alloc _).heap.size; simp); have n0 := hN.cell 0; have n1 := hN.cell 1; have n2 := hN.cell 2; have n3 := hN.cell 3; have n4 := hN.cell 4; have m0 := hN.frozen 0; have m1 := hN.frozen 1; have m2 := hN.frozen 2; have m3 := hN.frozen 3; have m4 := hN.frozen 4; simp only [zeroA, List.getElem?_toArray, List.getElem?_cons_zero, List.getElem?_cons_succ] at n0 n1 n2 n3 n4)
            | (go_at_call 41; refine (KB.out (wr.alloc (.cells (cellsA e) 26)).drew (belowS_alloc (Below.refl _ _) _).drew).mono ?_; rintro e9 w9 ⟨⟨A9, c9, rfl, hr9⟩, hb9⟩; have hk9 : Below wr.heap.size wr w9 := below_of2 hb9; have hN := blk_of2 hb9))
        all_goals
          go_wp2_with fail
          go_meet
          first
            | (have hz9 := hbs; exact ⟨_, _, _, rfl, rfl, Lib.hid (shI_2 hk9 hr9 HML.out HLL.out hN hz9)⟩)
            | (have hz9 := hN; exact ⟨_, _, _, rfl, rfl, Lib.hid (shI_3 hk9 hr9 HML.out HLL.out hz9)⟩)
            | exact ⟨_, _, _, rfl, rfl, Lib.hid (shI_1 hk9 hr9 HML.out HLL.out)⟩
      case rest =>
        obtain ⟨gb, A3, q3, rfl, rfl, HI2⟩ := hcut
        obtain ⟨hbx, hko, hb⟩ := HI2.out
        have hk33 : e.kind = 33 := by
          obtain ⟨x, hx, hm⟩ := hkr
          rw [HEK.out] at hx
          cases hx
          simpa using hm
        have hcase : l = [] ∨ S1 X.es l := by
          have := HSH.out
          unfold ShapeP at this
          rw [hk33] at this
          simpa [inL0, inL1] using this
        have hgc := HG.out.2.go hb
        have HGc := Lib.hid (HG.out.trans hgc)
        have HRc := Lib.hid (hgc.own HG.out.2 HRW.out (by decide))
        have HBc := Lib.hid (hgc.blk HG.out.2 HBX.out (by decide))
        have x0 := hbx.cell 0
        have x2 := hbx.cell 2
        simp only [cellsA, List.getElem?_toArray, List.getElem?_cons_zero, List.getElem?_cons_succ] at x0 x2
        rw [hk33] at x0
        have hzc : w.heap.size < wc.heap.size := HBc.out.lt
        have HKO := Lib.hid hko
        have HB3 := Lib.hid hbx
        clear HI2 c0 c1 c2' c3 c4 b0 hbx hko hb hgc
        rcases hcase with hl0 | hl1
        · subst hl0
          have KC := Lib.hid (count_any X wc A3 q3 0 0 1 (by decide) (by decide))
          have zl : (([] : List Nat).length) = 0 := rfl
          go_wp2_with fail
          refine KC.out.mono ?_
          rintro e1 w1 ⟨rfl, hw1⟩
          have hg1 := HGc.out.2.go hw1
          have HG1 := Lib.hid (HGc.out.trans hg1)
          have HR1 := Lib.hid (hg1.own HGc.out.2 HRc.out (by decide))
          have HB1 := Lib.hid (hg1.blk HGc.out.2 HBc.out (by decide))
          have HE1 := Lib.hid (hg1.blk HGc.out.2 HB3.out (by decide))
          have y2 := HE1.out.cell 2
          simp only [cellsA, List.getElem?_toArray, List.getElem?_cons_zero, List.getElem?_cons_succ] at y2
          clear hw1 hg1
          go_wp2_with fail
          have hA := HG1.out.alloc (.cells (parCells e.text .nilIface) 200)
          have HP := Blk.new w1 200 (parCells e.text .nilIface)
          have hR2 := HR1.out.alloc (.cells (parCells e.text .nilIface) 200)
          have hB2 := HB1.out.alloc (.cells (parCells e.text .nilIface) 200)
          obtain ⟨W2, hW2⟩ : ∃ W2, w1.alloc (.cells (parCells e.text .nilIface) 200) = W2 := ⟨_, rfl⟩
          rw [hW2] at hA HP hR2 hB2
          have hW2' := hW2
          unfold parCells at hW2'
          have HG2 := Lib.hid hA
          have HR2 := Lib.hid hR2
          have HB2 := Lib.hid hB2
          have hz2 : w.heap.size ≤ W2.heap.size := hA.1.size
          clear hA hR2 hB2
          erw [hW2']
          have HP2 := Lib.hid HP
          have hpl := HP.lt
          have hbl := HB2.out.lt
          have hfar : some w.heap.size ≠ u.ownBlock := fun e => own_blk_ne HR2.out HB2.out (by decide) e.symm
          have r0 := HP2.out.drew.cell 0
          have r1 := HP2.out.drew.cell 1
          have r2 := HP2.out.drew.cell 2
          have r3 := HP2.out.drew.cell 3
          have r4 := HP2.out.drew.cell 4
          have r5 := HP2.out.drew.cell 5
          have r6 := HP2.out.drew.cell 6
          have r7 := HP2.out.drew.cell 7
          have r8 := HP2.out.drew.cell 8
          have r9 := HP2.out.drew.cell 9
          have r10 := HP2.out.drew.cell 10
          have s3 := HB2.out.drew.cell 3
          have s3b := (HB2.out.alloc (.cells (parCells e.text .nilIface) 200)).drew.cell 3
          simp only [parCells, fnCells, List.getElem?_toArray, List.getElem?_cons_zero, List.getElem?_cons_succ] at r0 r1 r2 r3 r4 r5 r6 r7 r8 r9 r10 s3 s3b
          clear HP
          go_region_law ((refine step_append_x _ (by rfl) _ _ 196 (by rfl) (w.heap.size + 1) 200 i0 _ 11 160 Try.underlying196 hi hz hsz hbb rfl (by omega) u j xs (by rfl) (HR2.out.alloc _).drew (W2.heap.size + 1) (some ⟨W2.heap.size, 0, none⟩) 1 1 (parCells e.text .nilIface).toList (by rfl) (Reads.ofBlock (cs := parCells e.text .nilIface) (heap_alloc_new _ _) rfl (by omega)) (by simp [parCells, Value.oneCell']) (.inr (by omega)) (by unfold maxLen; omega) (by omega) (by simp; omega) (W2.heap.size + 1) (by simp) ?_; intro g2 cap2 w3 hown2 hgrow2 hat2 hlt2; have hB3 := (HB2.out.alloc _).drew.grown hgrow2 hfar; have t3 := hB3.cell 3; have z3 := hB3.frozen 3; simp only [fnCells, List.getElem?_toArray, List.getElem?_cons_zero, List.getElem?_cons_succ] at t3))
          all_goals
            have HX := Lib.hid (fnI_step H.out HG2.out HR2.out HB2.out hown2 hgrow2)
            clear hown2 hgrow2
            go_wp2_with fail
            go_roundw
            case rel => exact ⟨j + 1, by omega, by go_num, _, HX⟩
            case measure => simp [intOf]; omega
        · obtain ⟨q, rfl, hq⟩ := hl1
          have hmk : m ≤ q := by
            have h1 := HM.out k (List.mem_append_left _ hmm)
            have h2 := HGT.out q (by simp)
            omega
          obtain ⟨xq, -, KQ⟩ := HN.out q hmk hq
          have KKQ := Lib.hid KQ
          clear KQ
          have KC := Lib.hid (count_any X wc A3 q3 1 0 1 (by decide) (by decide))
          obtain ⟨gq, oq, rfl, hglq, hcq, -⟩ := HKO.out.cell (j := 0) (k := q) rfl
          simp only [Nat.add_zero] at hcq
          have zl : ([q].length) = 1 := rfl
          go_wp2_with fail
          refine KC.out.mono ?_
          rintro e1 w1 ⟨rfl, hw1⟩
          have hg1 := HGc.out.2.go hw1
          have HG1 := Lib.hid (HGc.out.trans hg1)
          have HR1 := Lib.hid (hg1.own HGc.out.2 HRc.out (by decide))
          have HB1 := Lib.hid (hg1.blk HGc.out.2 HBc.out (by decide))
          have HE1 := Lib.hid (hg1.blk HGc.out.2 HB3.out (by decide))
          have hz1 : w.heap.size < w1.heap.size := HB1.out.lt
          have hne : u.ownBlock ≠ some w1.heap.size := fun e0 => by have := (HR1.out.lt _ e0).2; omega
          have y2 := HE1.out.cell 2
          have hA := HG1.out.alloc (.cells (parCells e.text .nilIface) 200)
          have y5 : (w1.alloc (.cells (parCells e.text .nilIface) 200)).cell? ⟨gq, oq, none⟩ = some (.int .i64 q) := ((hg1.alloc _).cellK HGc.out.2 HKO.out (j := 0) (k := q) rfl)
          simp only [cellsA, parCells, List.getElem?_toArray, List.getElem?_cons_zero, List.getElem?_cons_succ] at y2 y5
          clear hw1 hg1
          go_wp2_with fail
          refine (KKQ.out _ hA.2).mono ?_
          rintro e2 w2 ⟨⟨g5, rfl, -⟩, hgo2⟩
          generalize tyOf xq.kind = t5 at *
          have HG2 := Lib.hid (hA.trans hgo2)
          have hR2 := hgo2.own hA.2 (HR1.out.alloc _) (by decide)
          have hB2 := hgo2.blk hA.2 (HB1.out.alloc _) (by decide)
          have hP2 := hgo2.blk hA.2 (Blk.new w1 200 (parCells e.text .nilIface)) (by decide)
          have HG1' := HG2
          have e4 := hP2.cell 4
          have f4 := hP2.frozen 4
          simp only [parCells, List.getElem?_toArray, List.getElem?_cons_zero, List.getElem?_cons_succ] at e4
          have HR2' := Lib.hid hR2
          have HB2' := Lib.hid hB2
          have HP2' := Lib.hid hP2
          clear hgo2 hA hR2 hB2 hP2
          go_wp2_with fail
          have hA := HG1'.out.set H.out (g := w1.heap.size) (i := 4) (by omega) (.iface t5 (.pointer (some ⟨g5, 0, none⟩)))
          have HP : Blk (w2.setCell ⟨w1.heap.size, 4, none⟩ (.iface t5 (.pointer (some ⟨g5, 0, none⟩)))) w1.heap.size 200 (parCells e.text (.iface t5 (.pointer (some ⟨g5, 0, none⟩)))) := by simpa [parCells] using HP2'.out.set_ 4 (.iface t5 (.pointer (some ⟨g5, 0, none⟩)))
          have hR2 := HR2'.out.kept (grownBy_set2 w2 ⟨w1.heap.size, 4, none⟩ (.iface t5 (.pointer (some ⟨g5, 0, none⟩)))) (.inr hne)
          have hB2 := HB2'.out.far (p := ⟨w1.heap.size, 4, none⟩) (by show w.heap.size ≠ w1.heap.size; omega) (.iface t5 (.pointer (some ⟨g5, 0, none⟩)))
          obtain ⟨W2, hW2⟩ : ∃ W2, w2.setCell ⟨w1.heap.size, 4, none⟩ (.iface t5 (.pointer (some ⟨g5, 0, none⟩))) = W2 := ⟨_, rfl⟩
          rw [hW2] at hA HP hR2 hB2 ⊢
          have HG2 := Lib.hid hA
          have HR2 := Lib.hid hR2
          have HB2 := Lib.hid hB2
          have hz2 : w.heap.size ≤ W2.heap.size := hA.1.size
          clear hA hR2 hB2 hW2
          have HP2 := Lib.hid HP
          have hpl := HP.lt
          have hbl := HB2.out.lt
          have hfar : some w.heap.size ≠ u.ownBlock := fun e => own_blk_ne HR2.out HB2.out (by decide) e.symm
          have r0 := HP2.out.drew.cell 0
          have r1 := HP2.out.drew.cell 1
          have r2 := HP2.out.drew.cell 2
          have r3 := HP2.out.drew.cell 3
          have r4 := HP2.out.drew.cell 4
          have r5 := HP2.out.drew.cell 5
          have r6 := HP2.out.drew.cell 6
          have r7 := HP2.out.drew.cell 7
          have r8 := HP2.out.drew.cell 8
          have r9 := HP2.out.drew.cell 9
          have r10 := HP2.out.drew.cell 10
          have s3 := HB2.out.drew.cell 3
          have s3b := (HB2.out.alloc (.cells (parCells e.text (.iface t5 (.pointer (some ⟨g5, 0, none⟩)))) 200)).drew.cell 3
          simp only [parCells, fnCells, List.getElem?_toArray, List.getElem?_cons_zero, List.getElem?_cons_succ] at r0 r1 r2 r3 r4 r5 r6 r7 r8 r9 r10 s3 s3b
          clear HP
          go_region_law ((refine step_append_x _ (by rfl) _ _ 196 (by rfl) (w.heap.size + 1) 200 i0 _ 11 160 Try.underlying196 hi hz hsz hbb rfl (by omega) u j xs (by rfl) (HR2.out.alloc _).drew (W2.heap.size + 1) (some ⟨W2.heap.size, 0, none⟩) 1 1 (parCells e.text (.iface t5 (.pointer (some ⟨g5, 0, none⟩)))).toList (by rfl) (Reads.ofBlock (cs := parCells e.text (.iface t5 (.pointer (some ⟨g5, 0, none⟩)))) (heap_alloc_new _ _) rfl (by omega)) (by simp [parCells, Value.oneCell']) (.inr (by omega)) (by unfold maxLen; omega) (by omega) (by simp; omega) (W2.heap.size + 1) (by simp) ?_; intro g2 cap2 w3 hown2 hgrow2 hat2 hlt2; have hB3 := (HB2.out.alloc _).drew.grown hgrow2 hfar; have t3 := hB3.cell 3; have z3 := hB3.frozen 3; simp only [fnCells, List.getElem?_toArray, List.getElem?_cons_zero, List.getElem?_cons_succ] at t3))
          all_goals
            have HX := Lib.hid (fnI_step H.out HG2.out HR2.out HB2.out hown2 hgrow2)
            clear hown2 hgrow2
            go_wp2_with fail
            go_roundw
            case rel => exact ⟨j + 1, by omega, by go_num, _, HX⟩
            case measure => simp [intOf]; omega
    · obtain rfl : j = r.length := by omega
      obtain ⟨g', off', hA, hgl2, hc, hkn⟩ := (HG.out.kids H.out HK.out).cell (j := r.length) (k := a) (by simp)
      cases hA
      go_wp2_with fail
      refine (KKA.out _ HG.out.2).mono ?_
      rintro e1 w1 ⟨⟨g5, rfl, -⟩, hgo⟩
      generalize tyOf xa.kind = t5 at *
      have hB := hgo.blk HG.out.2 HBX.out (by decide)
      have e2 := hB.cell 2
      have f2 := hB.frozen 2
      simp only [fnCells, List.getElem?_toArray, List.getElem?_cons_zero, List.getElem?_cons_succ] at e2
      have HG1 := Lib.hid (HG.out.trans hgo)
      have HB2 := Lib.hid (hB.set_ 2 (.iface t5 (.pointer (some ⟨g5, 0, none⟩))))
      clear hgo hB
      go_wp2_with fail
      go_ret
      exact ⟨⟨_, _, _, rfl, by simpa [fnCells] using HB2.out.cell 2⟩, HG1.out.set H.out (Nat.le_refl _) _⟩
end Go.Proofs.Ytdhhdnopilfifaa
