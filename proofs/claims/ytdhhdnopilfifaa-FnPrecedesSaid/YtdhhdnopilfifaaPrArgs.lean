/-
  The builder: arguments. (Printed by wip/gen_args.py.)
-/
import Derived.Test.YtdhhdnopilfifaaPrMembers
namespace Go.Proofs.Ytdhhdnopilfifaa
open Go.RowKit

theorem own_own_ne {w : World} {b1 b2 : Nat} {e1 e2 : TypeId} {s1 s2 : Nat} {v1 v2 : Value} {n1 n2 : Nat} {x1 x2 : List Value} (h1 : w.ownsRow b1 e1 s1 v1 n1 x1) (h2 : w.ownsRow b2 e2 s2 v2 n2 x2) (hne : e1 ≠ e2) :
    v1.ownBlock = none ∨ v1.ownBlock ≠ v2.ownBlock := by
  rcases h1.2 with ⟨rfl, _⟩ | ⟨g1, c1, cur1, rfl, _, hh1, _⟩
  · exact .inl rfl
  · right
    rcases h2.2 with ⟨rfl, _⟩ | ⟨g2, c2, cur2, rfl, _, hh2, _⟩
    · simp [Value.ownBlock]
    · intro h
      have : g1 = g2 := by simpa [Value.ownBlock] using h
      subst this
      rw [hh1] at hh2
      simp at hh2
      exact hne hh2.2
theorem info_arg : (Try.prog.info? 195).map (fun i => (i.zero, i.size, i.bytes)) = some (some (.agg #[.slice none 0 0, .string ByteArray.empty, .slice none 0 0, .nilIface, .slice none 0 0]), 5, 104) := by kernel_rfl
def ArPost (X : Cx) (w : World) (e : Ending) (w' : World) : Prop := (∃ A1 n1 c1 A2 n2 c2, e = .returned (.agg #[.slice A1 n1 c1, .slice A2 n2 c2])) ∧ X.Go w w'
/-- The arguments so far. -/
def ArI (X : Cx) (w wr : World) (l : List Nat) (j p q : Nat) (u v : Value) : Prop :=
  Blk wr w.heap.size 134 #[.slice none 0 0, .slice none 0 0] ∧ Blk wr (w.heap.size + 1) 134 #[u, v] ∧ (∃ xs, wr.ownsRow (w.heap.size + 2) 193 2 u p xs) ∧ (∃ ys, wr.ownsRow (w.heap.size + 2) 195 5 v q ys) ∧ X.Go w wr ∧
  p ≤ j ∧ q ≤ j ∧ (q ≠ 0 → ∃ i a, j = i + 1 ∧ l[i]? = some a ∧ txOf X.es a ≠ 0)
theorem arI_pos {X : Cx} {w W4 w3 : World} {l : List Nat} {j p : Nat} {u v u' : Value} {xs xs' ys : List Value} (hi : X.Inv w) (HG : X.Go w W4) (HB : Blk W4 w.heap.size 134 #[.slice none 0 0, .slice none 0 0]) (HO : Blk W4 (w.heap.size + 1) 134 #[u, v])
    (HR : W4.ownsRow (w.heap.size + 2) 193 2 u p xs) (HV : W4.ownsRow (w.heap.size + 2) 195 5 v 0 ys) (hown : w3.ownsRow (w.heap.size + 2) 193 2 u' (p + 1) xs') (hgrow : W4.grownBy w3 u.ownBlock) (hp : p ≤ j) :
    ArI X w (w3.setCell ⟨w.heap.size + 1, 0, none⟩ u') l (j + 1) (p + 1) 0 u' v := by
  have hz : w.heap.size ≤ W4.heap.size := HG.1.size
  have hb : Below w.heap.size W4 w3 := (Below.refl w.heap.size W4).grown hgrow hz (fun k hk => by have := (HR.lt k hk).1; omega)
  have hO3 := HO.grown hgrow (fun e0 => own_blk_ne HR HO (by decide) e0.symm)
  have hB3 := HB.grown hgrow (fun e0 => own_blk_ne HR HB (by decide) e0.symm)
  have hV3 := HV.kept hgrow (own_own_ne HV HR (by decide))
  refine ⟨hB3.far (by show w.heap.size ≠ w.heap.size + 1; omega) _, by have := hO3.set_ 0 u'; simpa using this, ⟨xs', hown.kept (grownBy_set2 w3 _ u') (.inr (own_blk_ne hown hO3 (by decide)))⟩, ⟨ys, hV3.kept (grownBy_set2 w3 _ u') (.inr (own_blk_ne hV3 hO3 (by decide)))⟩, (HG.low hi hb).set hi (by omega) u', by omega, by omega, fun h => absurd rfl h⟩
theorem arI_nam {X : Cx} {w W4 w3 : World} {l : List Nat} {j p q k : Nat} {u v v' : Value} {xs ys ys' : List Value} (hi : X.Inv w) (HG : X.Go w W4) (HB : Blk W4 w.heap.size 134 #[.slice none 0 0, .slice none 0 0]) (HO : Blk W4 (w.heap.size + 1) 134 #[u, v])
    (HR : W4.ownsRow (w.heap.size + 2) 193 2 u p xs) (HV : W4.ownsRow (w.heap.size + 2) 195 5 v q ys) (hown : w3.ownsRow (w.heap.size + 2) 195 5 v' (q + 1) ys') (hgrow : W4.grownBy w3 v.ownBlock) (hp : p ≤ j) (hq : q ≤ j) (hl : l[j]? = some k) (ht : txOf X.es k ≠ 0) :
    ArI X w (w3.setCell ⟨w.heap.size + 1, 1, none⟩ v') l (j + 1) p (q + 1) u v' := by
  have hz : w.heap.size ≤ W4.heap.size := HG.1.size
  have hb : Below w.heap.size W4 w3 := (Below.refl w.heap.size W4).grown hgrow hz (fun k hk => by have := (HV.lt k hk).1; omega)
  have hO3 := HO.grown hgrow (fun e0 => own_blk_ne HV HO (by decide) e0.symm)
  have hB3 := HB.grown hgrow (fun e0 => own_blk_ne HV HB (by decide) e0.symm)
  have hR3 := HR.kept hgrow (own_own_ne HR HV (by decide))
  refine ⟨hB3.far (by show w.heap.size ≠ w.heap.size + 1; omega) _, by have := hO3.set_ 1 v'; simpa using this, ⟨xs, hR3.kept (grownBy_set2 w3 _ v') (.inr (own_blk_ne hR3 hO3 (by decide)))⟩, ⟨ys', hown.kept (grownBy_set2 w3 _ v') (.inr (own_blk_ne hown hO3 (by decide)))⟩, (HG.low hi hb).set hi (by omega) v', by omega, by omega, fun _ => ⟨j, k, rfl, hl, ht⟩⟩
set_option maxRecDepth 100000 in
set_option maxHeartbeats 6400000 in
theorem arguments_any (X : Cx) (hok : X.OK) (w : World) (h : X.Inv w) (m : Nat) (hN : NodeA X m) (A2 : Option Addr) (cq : Nat) (ks : List Nat) (hk : KidsOK w X.n A2 cq ks) (hr : ArgsP X.es ks) (hm : ∀ k ∈ ks, m ≤ k) :
    Calls Try.prog 52 #[.pointer (some ⟨X.bB, 0, none⟩), .slice A2 ks.length cq] w (ArPost X w) := by
  have H := Lib.hid h
  have HK := Lib.hid hk
  have HN := Lib.hid hN
  have HR := Lib.hid hr
  have HM := Lib.hid hm
  have hll := hk.2.2.1
  obtain ⟨i0, hi, hz, hsz, hbb⟩ := info_parts info_cse
  obtain ⟨i1, hi1, hzr1, hsz1, hbb1⟩ := info_parts info_arg
  clear h hk hN hr hm
  go_enter Try.func52, Try.ntmps52
  go_wp2_with fail
  go_loopw [12] (fun t wr => ∃ j : Nat, j ≤ ks.length ∧ t = .int .i64 j ∧ ∃ u v p q, Hid (ArI X w wr ks j p q u v)) (fun t _ => ks.length - (intOf t).toNat)
  case atStart => exact ⟨0, Nat.zero_le _, rfl, _, _, 0, 0, Lib.hid ⟨(Blk.new _ _ _).alloc _, Blk.newAt _ _ (by simp) _ _, ⟨[], World.ownsRow_nil _ _ _ _⟩, ⟨[], World.ownsRow_nil _ _ _ _⟩, ((H.out.go (Below.refl _ _)).alloc _).alloc _, Nat.le_refl _, Nat.le_refl _, fun h => absurd rfl h⟩⟩
  case round =>
    obtain ⟨j, hj, rfl, u, v, p, q, HI⟩ := hrel
    obtain ⟨hres, hout, ⟨xs, hrow⟩, ⟨ys, hnam⟩, hgo, hpj, hqj, hq⟩ := HI.out
    have HRW := Lib.hid hrow
    have HNW := Lib.hid hnam
    have HG := Lib.hid hgo
    have HRes := Lib.hid hres
    have HOut := Lib.hid hout
    have HQ := Lib.hid hq
    have hzw : w.heap.size + 1 < wr.heap.size := hout.lt
    clear hrow hgo hnam hres hout hq
    obtain ⟨Au, cu, rfl⟩ := own_form2 HRW.out
    obtain ⟨Av, cv, rfl⟩ := own_form2 HNW.out
    by_cases hlt : j < ks.length
    · have hg := List.getElem?_eq_getElem hlt
      have hmm := List.getElem_mem hlt
      generalize ks[j] = k at *
      have hkr := HR.out.1 k hmm
      have hmk := HM.out k hmm
      obtain ⟨g, off, rfl, hgl, hc, hkn⟩ := (HG.out.kids H.out HK.out).cell hg
      obtain ⟨e, hek, hbare, hsh, hml, hll2, hgt, c0, c1, c2, c3, c4, b0, hbw, KB0⟩ := at_facts X hok wr HG.out.2 k hkn
      have hkd : e.kind = 34 := by
        obtain ⟨x, hx, hm⟩ := hkr
        rw [hek] at hx
        cases hx
        simpa using hm
      have HT : Hid (txOf X.es k = e.text.size) := Lib.hid (by unfold txOf; rw [hek])
      have HGK := Lib.hid hg
      have KB := Lib.hid KB0
      have HML := Lib.hid hml
      have HLL := Lib.hid hll2
      have HSH := Lib.hid hsh
      have HGT := Lib.hid hgt
      have HKD := Lib.hid hkd
      clear KB0 hml hll2 hsh hgt hek hbare hg hmm hkr hkd
      generalize X.kl k = l at *
      go_upto_region 5 with fail
      go_cut [8, 9] (fun s8 s9 wx => ∃ (g : Nat) (A3 : Option Addr) (c3 : Nat), s8 = .pointer (some ⟨g, 0, none⟩) ∧ s9 = .slice A3 l.length c3 ∧ Hid (ShI X.n e l wr wx g A3 c3))
      case first =>
        go_region_held3 (fun w' => (Below wr.heap.size wr w' ∧ w'.cell? ⟨X.b, X.o + k * 5, none⟩ = some (.int .i64 e.kind) ∧ w'.cell? ⟨X.b, X.o + k * 5 + 1, none⟩ = some (.int .i64 e.op) ∧ w'.cell? ⟨X.b, X.o + k * 5 + 2, none⟩ = some (.string e.text) ∧ w'.cell? ⟨X.b, X.o + k * 5 + 3, none⟩ = some (.int .i64 e.flag) ∧ w'.cell? ⟨X.b, X.o + k * 5 + 4, none⟩ = some (.int .i64 e.size)) ∧ w'.cell? ⟨X.bB, 0, none⟩ = some (.slice (some ⟨X.b, X.o, none⟩) X.n X.c))
          ((refine keepR ?_ c0 c1 c2 c3 c4 b0; repeat (first | with_reducible exact Below.refl _ _ | with_reducible exact hk9 | with_reducible apply Below.drew | with_reducible apply belowS_alloc | (with_reducible refine belowS_set ?_ (Nat.le_refl _) _))))
          (first
            | (go_at_call 41; refine (KB.out wr.drew (Below.refl _ _).drew).mono ?_; rintro e9 w9 ⟨⟨A9, c9, rfl, hr9⟩, hb9⟩; have hk9 : Below wr.heap.size wr w9 := below_of1 hb9)
            | (go_at_call 41; refine (KB.out (wr.alloc (.cells zeroA 26)).drew (belowS_alloc (Below.refl _ _) _).drew).mono ?_; rintro e9 w9 ⟨⟨A9, c9, rfl, hr9⟩, hb9⟩; have hk9 : Below wr.heap.size wr w9 := below_of2 hb9; have hN := blk_of2 hb9; have hbs : wr.heap.size + 1 ≤ (wr.alloc (.cells zeroA 26)).drew.heap.size := (by show wr.heap.size + 1 ≤ (wr.alloc _).heap.size; simp); have n0 := hN.cell 0; have n1 := hN.cell 1; have n2 := hN.cell 2; have n3 := hN.cell 3; have n4 := hN.cell 4; have m0 := hN.frozen 0; have m1 := hN.frozen 1; have m2 := hN.frozen 2; have m3 := hN.frozen 3; have m4 := hN.frozen 4; simp only [zeroA, List.getElem?_toArray, List.getElem?_cons_zero, List.getElem?_cons_succ] at n0 n1 n2 n3 n4)
            | (go_at_call 41; refine (KB.out (wr.alloc (.cells (cellsA e) 26)).drew (belowS_alloc (Below.refl _ _) _).drew).mono ?_; rintro e9 w9 ⟨⟨A9, c9, rfl, hr9⟩, hb9⟩; have hk9 : Below wr.heap.size wr w9 := below_of2 hb9; have hN := blk_of2 hb9))
        all_goals
          go_wp2_with fail
          go_meet
          first
            | (have hz9 := hbs; exact ⟨_, _, _, rfl, rfl, Lib.hid (shI_2 hk9 hr9 HML.out HLL.out hN hz9)⟩)
            | (have hz9 := hN; exact ⟨_, _, _, rfl, rfl, Lib.hid (shI_3 hk9 hr9 HML.out HLL.out hz9)⟩)
            | exact ⟨_, _, _, rfl, rfl, Lib.hid (shI_1 hk9 hr9 HML.out HLL.out)⟩
      case rest =>
        obtain ⟨gb, A3, q3, rfl, rfl, HI2⟩ := hcut
        obtain ⟨hbx, hko, hb⟩ := HI2.out
        have hgc := HG.out.2.go hb
        have HGc := Lib.hid (HG.out.trans hgc)
        have HRc := Lib.hid (hgc.own HG.out.2 HRW.out (by decide))
        have HNc := Lib.hid (hgc.own HG.out.2 HNW.out (by decide))
        have HResc := Lib.hid (hgc.blk HG.out.2 HRes.out (by decide))
        have HOutc := Lib.hid (hgc.blk HG.out.2 HOut.out (by decide))
        obtain ⟨a, rfl, ha⟩ : S1 X.es l := by
          have := HSH.out
          unfold ShapeP at this
          rw [HKD.out] at this
          simpa [inL0, inL1] using this
        have x0 := hbx.cell 0
        have x2 := hbx.cell 2
        simp only [cellsA, List.getElem?_toArray, List.getElem?_cons_zero, List.getElem?_cons_succ] at x0 x2
        rw [HKD.out] at x0
        have hka := HGT.out a (by simp)
        obtain ⟨xa, -, KA⟩ := HN.out a (by omega) ha
        have KKA := Lib.hid KA
        have KC := Lib.hid (count_any X wc A3 q3 1 1 1 (by decide) (by decide))
        have hzc : w.heap.size + 1 < wc.heap.size := HOutc.out.lt
        have HKO := Lib.hid hko
        have HB3 := Lib.hid hbx
        have zl : ([a].length) = 1 := rfl
        clear HI2 c0 c1 c2 c3 c4 b0 hbx hko hb hgc ha KA
        go_wp2_with fail
        refine KC.out.mono ?_
        rintro e1 w1 ⟨rfl, hw1⟩
        have hg1 := HGc.out.2.go hw1
        have HG1 := Lib.hid (HGc.out.trans hg1)
        have HR1 := Lib.hid (hg1.own HGc.out.2 HRc.out (by decide))
        have HN1 := Lib.hid (hg1.own HGc.out.2 HNc.out (by decide))
        have HRes1 := Lib.hid (hg1.blk HGc.out.2 HResc.out (by decide))
        have HOut1 := Lib.hid (hg1.blk HGc.out.2 HOutc.out (by decide))
        have hE1 := hg1.blk HGc.out.2 HB3.out (by decide)
        have HK1 := Lib.hid (hg1.kids HGc.out.2 HKO.out)
        obtain ⟨gq, oq, rfl, hglq, hcq, -⟩ := HK1.out.cell (j := 0) (k := a) rfl
        have y2 := hE1.cell 2
        have o0 := HOut1.out.cell 0
        have o1 := HOut1.out.cell 1
        have of0 := HOut1.out.frozen 0
        have of1 := HOut1.out.frozen 1
        simp only [Nat.add_zero, cellsA, List.getElem?_toArray, List.getElem?_cons_zero, List.getElem?_cons_succ] at hcq y2 o0 o1
        have hz1 : w.heap.size + 1 < w1.heap.size := HOut1.out.lt
        have hE := Lib.hid hE1
        clear hw1 hg1 KC hE1
        by_cases ht : e.text.size = 0
        · have q1 := empty_is ht
          have hq0 : q = 0 := by
            rcases Nat.eq_zero_or_pos q with h | h
            · exact h
            · obtain ⟨i, b, rfl, hb, hbt⟩ := HQ.out (by omega)
              exact absurd (HT.out.trans ht) (HR.out.2 i b k hb HGK.out hbt)
          subst hq0
          clear ht
          go_upto_region 10 with fail
          have d0 := HOut1.out.drew.cell 0
          have hfar := Lib.hid (show some (w.heap.size + 1) ≠ ((.slice Au p cu) : Value).ownBlock from fun e0 => own_blk_ne HR1.out HOut1.out (by decide) e0.symm)
          have dq := (show w1.drew.cell? ⟨gq, oq, none⟩ = some (.int .i64 a) from hcq)
          simp only [List.getElem?_toArray, List.getElem?_cons_zero] at d0
          go_region_law (first
            | (go_simp; go_at_call 22; refine (KKA.out _ HG1.out.2.drew).mono ?_; rintro e9 w9 ⟨⟨g9, rfl, -⟩, hgo9⟩; generalize tyOf xa.kind = t9; have HG9 := Lib.hid (HG1.out.drew.trans hgo9); have HR9 := Lib.hid (hgo9.own HG1.out.2.drew HR1.out.drew (by decide)); have HN9 := Lib.hid (hgo9.own HG1.out.2.drew HN1.out.drew (by decide)); have HRes9 := Lib.hid (hgo9.blk HG1.out.2.drew HRes1.out.drew (by decide)); have HO9 := Lib.hid (hgo9.blk HG1.out.2.drew HOut1.out.drew (by decide)); have hE9 := hgo9.blk HG1.out.2.drew hE.out.drew (by decide); have p0 := HO9.out.cell 0; have pt := hE9.cell 2; have hz9 : w.heap.size + 1 < w9.heap.size := HO9.out.lt; simp only [cellsA, List.getElem?_toArray, List.getElem?_cons_zero, List.getElem?_cons_succ] at p0 pt; clear hgo9 hE9)
            | (refine step_append_x _ (by rfl) _ _ 126 (by rfl) (w.heap.size + 2) 193 i0 _ 2 40 Try.underlying126 hi hz hsz hbb rfl (by omega) (.slice Au p cu) p xs (by rfl) (HR9.out.alloc _) (w9.heap.size + 1) (some ⟨w9.heap.size, 0, none⟩) 1 1 [.iface t9 (.pointer (some ⟨g9, 0, none⟩)), .slice none 0 0] (by rfl) (Reads.ofBlock (cs := #[.iface t9 (.pointer (some ⟨g9, 0, none⟩)), .slice none 0 0]) (heap_alloc_new _ _) rfl (by omega)) (by simp [Value.oneCell']) (.inr (by omega)) (by unfold maxLen; omega) (by omega) (by simp; omega) (w9.heap.size + 1) (by simp) ?_; intro g2 cap2 w3 hown2 hgrow2 hat2 hlt2; have hO3 := (HO9.out.alloc _).grown hgrow2 hfar.out; have t0 := hO3.cell 0; have z0 := hO3.frozen 0; simp only [List.getElem?_toArray, List.getElem?_cons_zero] at t0; clear hO3))
          all_goals
            have HX := Lib.hid (arI_pos (l := ks) H.out (HG9.out.alloc _) (HRes9.out.alloc _) (HO9.out.alloc _) (HR9.out.alloc _) (HN9.out.alloc _) hown2 hgrow2 hpj)
            clear hown2 hgrow2
            go_wp2_with fail
            go_roundw
            case rel => exact ⟨j + 1, by omega, by go_num, _, _, _, _, HX⟩
            case measure => simp [intOf]; omega
        · have q1 := empty_not ht
          have HTN : Hid (txOf X.es k ≠ 0) := Lib.hid (by rw [HT.out]; exact ht)
          clear ht
          go_upto_region 11 with fail
          have d0 := HOut1.out.drew.cell 1
          have hfar := Lib.hid (show some (w.heap.size + 1) ≠ ((.slice Av q cv) : Value).ownBlock from fun e0 => own_blk_ne HN1.out HOut1.out (by decide) e0.symm)
          have dq := (show w1.drew.cell? ⟨gq, oq, none⟩ = some (.int .i64 a) from hcq)
          simp only [List.getElem?_toArray, List.getElem?_cons_zero, List.getElem?_cons_succ] at d0
          go_region_law (first
            | (go_simp; go_at_call 22; refine (KKA.out _ HG1.out.2.drew).mono ?_; rintro e9 w9 ⟨⟨g9, rfl, -⟩, hgo9⟩; generalize tyOf xa.kind = t9; have HG9 := Lib.hid (HG1.out.drew.trans hgo9); have HR9 := Lib.hid (hgo9.own HG1.out.2.drew HR1.out.drew (by decide)); have HN9 := Lib.hid (hgo9.own HG1.out.2.drew HN1.out.drew (by decide)); have HRes9 := Lib.hid (hgo9.blk HG1.out.2.drew HRes1.out.drew (by decide)); have HO9 := Lib.hid (hgo9.blk HG1.out.2.drew HOut1.out.drew (by decide)); have hE9 := hgo9.blk HG1.out.2.drew hE.out.drew (by decide); have p1 := HO9.out.cell 1; have pt := hE9.cell 2; have hz9 : w.heap.size + 1 < w9.heap.size := HO9.out.lt; simp only [cellsA, List.getElem?_toArray, List.getElem?_cons_zero, List.getElem?_cons_succ] at p1 pt; clear hgo9 hE9)
            | (refine step_append_x _ (by rfl) _ _ 132 (by rfl) (w.heap.size + 2) 195 i1 _ 5 104 Try.underlying132 hi1 hzr1 hsz1 hbb1 rfl (by omega) (.slice Av q cv) q ys (by rfl) (HN9.out.alloc _) (w9.heap.size + 1) (some ⟨w9.heap.size, 0, none⟩) 1 1 [.slice none 0 0, .string e.text, .slice none 0 0, .iface t9 (.pointer (some ⟨g9, 0, none⟩)), .slice none 0 0] (by rfl) (Reads.ofBlock (cs := #[.slice none 0 0, .string e.text, .slice none 0 0, .iface t9 (.pointer (some ⟨g9, 0, none⟩)), .slice none 0 0]) (heap_alloc_new _ _) rfl (by omega)) (by simp [Value.oneCell']) (.inr (by omega)) (by unfold maxLen; omega) (by omega) (by simp; omega) (w9.heap.size + 1) (by simp) ?_; intro g2 cap2 w3 hown2 hgrow2 hat2 hlt2; have hO3 := (HO9.out.alloc _).grown hgrow2 hfar.out; have t1 := hO3.cell 1; have z1 := hO3.frozen 1; simp only [List.getElem?_toArray, List.getElem?_cons_zero, List.getElem?_cons_succ] at t1; clear hO3))
          all_goals
            have HX := Lib.hid (arI_nam H.out (HG9.out.alloc _) (HRes9.out.alloc _) (HO9.out.alloc _) (HR9.out.alloc _) (HN9.out.alloc _) hown2 hgrow2 hpj hqj HGK.out HTN.out)
            clear hown2 hgrow2
            go_wp2_with fail
            go_roundw
            case rel => exact ⟨j + 1, by omega, by go_num, _, _, _, _, HX⟩
            case measure => simp [intOf]; omega
    · obtain rfl : j = ks.length := by omega
      have s0 := HOut.out.cell 0
      have s1 := HOut.out.cell 1
      have r0 := HRes.out.cell 0
      have r1 := HRes.out.cell 1
      have f0 := HRes.out.frozen 0
      have f1 := HRes.out.frozen 1
      simp only [List.getElem?_toArray, List.getElem?_cons_zero, List.getElem?_cons_succ] at s0 s1 r0 r1
      have HP := Lib.hid ((HRes.out.set_ 0 (.slice Au p cu)).set_ 1 (.slice Av q cv))
      have HGf := Lib.hid ((HG.out.set H.out (g := w.heap.size) (i := 0) (Nat.le_refl _) (.slice Au p cu)).set H.out (g := w.heap.size) (i := 1) (Nat.le_refl _) (.slice Av q cv))
      go_wp2_with fail
      have t0 := HP.out.cell 0
      have t1 := HP.out.cell 1
      simp at t0 t1
      refine bodyPost_ret (v := .agg #[.slice Au p cu, .slice Av q cv]) ?_ rfl ⟨⟨_, _, _, _, _, _, rfl⟩, HGf.out⟩
      simp [results, Try.results52, go_sem, t0, t1]
end Go.Proofs.Ytdhhdnopilfifaa
