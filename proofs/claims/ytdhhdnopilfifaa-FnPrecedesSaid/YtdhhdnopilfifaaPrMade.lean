/-
  The builder: made, node. (Printed by wip/gen_made.py.)
-/
import Derived.Test.YtdhhdnopilfifaaPrSugar
namespace Go.Proofs.Ytdhhdnopilfifaa
open Go.RowKit

theorem kids_len (X : Cx) (hok : X.OK) (k : Nat) (hk : k < X.n) : (X.kl k).length ≤ X.n := by
  obtain ⟨h400, ht, hlen⟩ := hok
  obtain ⟨x, hx, g1, g2, g3⟩ := ht.1 k (by omega)
  have := g3.len
  omega
/-- What both makes of a node of its kinds. -/
theorem both_sum (X : Cx) (hok : X.OK) (e : ND) (w : World) (h : X.Inv w) (m : Nat) (hN : NodeA X m) (A2 : Option Addr) (cq : Nat) (l : List Nat) (hk : KidsOK w X.n A2 cq l) (hm : ∀ k ∈ l, m ≤ k) (hs : ShapeP X.es e l) (hb : BareP e) (hl : l.length ≤ X.n) (hkd : e.kind = 9 ∨ e.kind = 10 ∨ e.kind = 11 ∨ e.kind = 15 ∨ e.kind = 18 ∨ e.kind = 19 ∨ e.kind = 20 ∨ e.kind = 21 ∨ e.kind = 22 ∨ e.kind = 23 ∨ e.kind = 24) (h9 : e.kind = 9 → e.flag = 0) :
    Calls Try.prog 44 #[.pointer (some ⟨X.bB, 0, none⟩), .agg #[.int .i64 e.kind, .int .i64 e.op, .string e.text, .int .i64 e.flag, .int .i64 e.size], .slice A2 l.length cq] w (NdPost X e w) := by
  obtain ⟨kd, op, tx, fl, sz⟩ := e
  unfold ShapeP GreatP at hs
  simp only at hkd hs h9
  unfold BareP at hb
  simp only at hb
  rcases hkd with rfl | rfl | rfl | rfl | rfl | rfl | rfl | rfl | rfl | rfl | rfl
  · simp [inL0, inL1] at hs
    have hf := h9 rfl
    obtain ⟨a, rfl, ha⟩ := hs.1 hf
    exact both9 X hok op tx fl sz w h m hN A2 cq a hk hm ha
  · simp [inL0, inL1] at hs
    obtain ⟨a, rfl, ha⟩ := hs
    exact both10 X hok op tx fl sz w h m hN A2 cq a hk hm ha
  · simp [inL0, inL1] at hs
    exact both11 X hok op tx fl sz w h m hN A2 cq l hk hm hs
  · simp [inL0, inL1] at hs
    obtain ⟨a, b, rfl, ha, hb2⟩ := hs
    exact both15 X hok op tx fl sz w h m hN A2 cq a b hk hm ha hb2
  · simp [inL0, inL1] at hs
    obtain ⟨a, r, rfl, ha, hr⟩ := hs
    exact both18 X hok op tx fl sz w h m hN A2 cq a r hk hm ha hr hl
  · simp [inL0, inL1] at hs
    obtain ⟨r, a, rfl, hr, ha⟩ := hs
    have hz : (r ++ [a]).length = r.length + 1 := by simp
    rw [hz] at hl ⊢
    exact both19 X hok op tx fl sz w h m hN A2 cq r a hk hm hr ha hl
  · simp [inL0, inL1] at hs
    obtain ⟨r, a, rfl, hne, hr, ha⟩ := hs
    have hz : (r ++ [a]).length = r.length + 1 := by simp
    rw [hz] at hl ⊢
    exact both20 X hok op tx fl sz w h m hN A2 cq r a hk hm hr hne ha hl
  · simp [inL0, inL1] at hs
    rcases hs with ⟨h1, h2⟩ | ⟨h1, h2⟩
    · match l, h1, h2, hk, hm, hl with
      | [a, b], _, h2, hk, hm, hl => exact both21_2 X hok op tx fl sz w h m hN A2 cq a b hk hm (h2 a (by simp)) (h2 b (by simp))
      | [], h1, _, _, _, _ => simp at h1
      | [_], h1, _, _, _, _ => simp at h1
      | _ :: _ :: _ :: _, h1, _, _, _, _ => simp at h1; omega
    · match l, h1, h2, hk, hm, hl with
      | [a, b, c], _, h2, hk, hm, hl => exact both21_3 X hok op tx fl sz w h m hN A2 cq a b c hk hm (h2 a (by simp)) (h2 b (by simp)) (h2 c (by simp))
      | [], h1, _, _, _, _ => simp at h1
      | [_], h1, _, _, _, _ => simp at h1
      | [_, _], h1, _, _, _, _ => simp at h1
      | _ :: _ :: _ :: _ :: _, h1, _, _, _, _ => simp at h1; omega
  · simp [inL0, inL1] at hs
    obtain ⟨a, rfl, ha⟩ := hs
    exact both22 X hok op tx fl sz w h m hN A2 cq a hk hm ha (hb.2.1 rfl)
  · simp [inL0, inL1] at hs
    obtain ⟨a, b, rfl, ha, hb2⟩ := hs
    exact both23 X hok op tx fl sz w h m hN A2 cq a b hk hm ha hb2 (hb.2.2.1 rfl)
  · simp [inL0, inL1] at hs
    obtain ⟨a, rfl, ha⟩ := hs
    exact both24 X hok op tx fl sz w h m hN A2 cq a hk hm ha
/-- What sugar makes of a node of its kinds. -/
theorem sugar_sum (X : Cx) (hok : X.OK) (e : ND) (w : World) (h : X.Inv w) (m : Nat) (hN : NodeA X m) (A2 : Option Addr) (cq : Nat) (l : List Nat) (hk : KidsOK w X.n A2 cq l) (hm : ∀ k ∈ l, m ≤ k) (hs : ShapeP X.es e l) (hb : BareP e) (hl : l.length ≤ X.n) (hkd : e.kind = 12 ∨ e.kind = 13 ∨ e.kind = 14 ∨ e.kind = 16 ∨ e.kind = 17 ∨ e.kind = 25 ∨ e.kind = 29 ∨ e.kind = 30) :
    Calls Try.prog 46 #[.pointer (some ⟨X.bB, 0, none⟩), .agg #[.int .i64 e.kind, .int .i64 e.op, .string e.text, .int .i64 e.flag, .int .i64 e.size], .slice A2 l.length cq] w (NdPost X e w) := by
  obtain ⟨kd, op, tx, fl, sz⟩ := e
  unfold ShapeP GreatP at hs
  simp only at hkd hs
  unfold BareP at hb
  simp only at hb
  rcases hkd with rfl | rfl | rfl | rfl | rfl | rfl | rfl | rfl
  · simp [inL0, inL1] at hs
    obtain ⟨a, r, rfl, ha, hr⟩ := hs
    exact sugar12 X hok op tx fl sz w h m hN A2 cq a r hk hm ha hr hl
  · simp [inL0, inL1] at hs
    exact sugar13 X hok op tx fl sz w h m hN A2 cq l hk hm hs
  · simp [inL0, inL1] at hs
    exact sugar14 X hok op tx fl sz w h m hN A2 cq l hk hm hs
  · simp [inL0, inL1] at hs
    obtain ⟨a, rfl, ha⟩ := hs
    exact sugar16 X hok op tx fl sz w h m hN A2 cq a hk hm ha
  · simp [inL0, inL1] at hs
    obtain ⟨a, b, c, d, rfl, ha, hb2, hc, hd⟩ := hs
    rcases hb2 with hb2 | hb2 <;> rcases hc with hc | hc <;> rcases hd with hd | hd
    · exact sugar17EEE X hok op tx fl sz w h m hN A2 cq a b c d hk hm ha hb2 hc hd
    · exact sugar17EEN X hok op tx fl sz w h m hN A2 cq a b c d hk hm ha hb2 hc hd
    · exact sugar17ENE X hok op tx fl sz w h m hN A2 cq a b c d hk hm ha hb2 hc hd
    · exact sugar17ENN X hok op tx fl sz w h m hN A2 cq a b c d hk hm ha hb2 hc hd
    · exact sugar17NEE X hok op tx fl sz w h m hN A2 cq a b c d hk hm ha hb2 hc hd
    · exact sugar17NEN X hok op tx fl sz w h m hN A2 cq a b c d hk hm ha hb2 hc hd
    · exact sugar17NNE X hok op tx fl sz w h m hN A2 cq a b c d hk hm ha hb2 hc hd
    · exact sugar17NNN X hok op tx fl sz w h m hN A2 cq a b c d hk hm ha hb2 hc hd
  · simp [inL0, inL1] at hs
    have hf : fl = 0 ∨ fl = 1 := hb.1 (by simp)
    obtain ⟨h1, h2⟩ := hs
    rcases hf with hf | hf
    · match l, h1, h2, hk, hm, hl with
      | [a, b], _, h2, hk, hm, hl => exact sugar25_2 X hok op tx fl sz w h m hN A2 cq a b hk hm (h2 a (by simp)) (h2 b (by simp)) hf
      | [], h1, _, _, _, _ => simp at h1; omega
      | [_], h1, _, _, _, _ => simp at h1; omega
      | _ :: _ :: _ :: _, h1, _, _, _, _ => simp at h1; omega
    · match l, h1, h2, hk, hm, hl with
      | [a, b, c], _, h2, hk, hm, hl => exact sugar25_3 X hok op tx fl sz w h m hN A2 cq a b c hk hm (h2 a (by simp)) (h2 b (by simp)) (h2 c (by simp)) hf
      | [], h1, _, _, _, _ => simp at h1; omega
      | [_], h1, _, _, _, _ => simp at h1; omega
      | [_, _], h1, _, _, _, _ => simp at h1; omega
      | _ :: _ :: _ :: _ :: _, h1, _, _, _, _ => simp at h1; omega
  · simp [inL0, inL1] at hs
    obtain ⟨a, b, rfl, ha, hb2⟩ := hs
    exact sugar29 X hok op tx fl sz w h m hN A2 cq a b hk hm ha hb2
  · simp [inL0, inL1] at hs
    obtain ⟨a, rfl, ha⟩ := hs
    exact sugar30 X hok op tx fl sz w h m hN A2 cq a hk hm ha
/-- How a node is made: as a leaf, by both, by sugar. -/
theorem kinds3 (e : ND) (h1 : 1 ≤ e.kind) (h2 : e.kind ≤ 30) (h9 : e.kind = 9 → e.flag = 0 ∨ e.flag = 1) : leafK e.kind e.flag = true ∨ leafK e.kind e.flag = false ∧ ((e.kind = 9 ∨ e.kind = 10 ∨ e.kind = 11 ∨ e.kind = 15 ∨ e.kind = 18 ∨ e.kind = 19 ∨ e.kind = 20 ∨ e.kind = 21 ∨ e.kind = 22 ∨ e.kind = 23 ∨ e.kind = 24) ∧ (e.kind = 9 → e.flag = 0) ∨ (e.kind = 12 ∨ e.kind = 13 ∨ e.kind = 14 ∨ e.kind = 16 ∨ e.kind = 17 ∨ e.kind = 25 ∨ e.kind = 29 ∨ e.kind = 30)) := by
  cases hl : leafK e.kind e.flag
  · right
    refine ⟨rfl, ?_⟩
    unfold leafK at hl
    simp at hl
    have h9' : e.kind = 9 → e.flag = 0 := by
      intro h
      rcases h9 h with g | g
      · exact g
      · exact absurd g (by simpa [h] using hl)
    omega
  · exact .inl rfl
theorem leaf_nil {es : List ND} {e : ND} {l : List Nat} (hl : leafK e.kind e.flag = true) (hs : ShapeP es e l) : l = [] ∧ e.kind ≠ 23 := by
  unfold leafK at hl
  unfold ShapeP at hs
  simp at hl
  rcases hl with ((((((((((h | h) | h) | h) | h) | h) | h) | h) | h) | h) | h) | ⟨h, hf⟩
  all_goals simp [h, inL0, inL1] at hs
  all_goals first | exact ⟨hs, by omega⟩ | exact ⟨hs.2 hf, by omega⟩
set_option maxRecDepth 100000 in
set_option maxHeartbeats 6400000 in
theorem made_any (X : Cx) (hok : X.OK) (w : World) (h : X.Inv w) (k : Nat) (hN : NodeA X (k + 1)) (e : ND) (hek0 : X.es[k]? = some e) (h1 : 1 ≤ e.kind) (h2 : e.kind ≤ 30) :
    Calls Try.prog 32 #[.pointer (some ⟨X.bB, 0, none⟩), .int .i64 k] w (NdPost X e w) := by
  have hkn : k < X.n := by
    have := (List.getElem?_eq_some_iff.1 hek0).1
    rw [hok.2.2] at this
    exact this
  have H := Lib.hid h
  have HOK := Lib.hid hok
  have HN := Lib.hid hN
  obtain ⟨e', hek, hbare, hsh, hml, hll, hgt, c0, c1, c2, c3, c4, b0, hbw, KB0⟩ := at_facts X hok w h k hkn
  have hee : e' = e := by rw [hek0] at hek; cases hek; rfl
  subst hee
  have h9 : e'.kind = 9 → e'.flag = 0 ∨ e'.flag = 1 := fun h => hbare.1 (by simp [h])
  have HK3 := Lib.hid (kinds3 e' h1 h2 h9)
  have HH9 := Lib.hid h9
  have HKL := Lib.hid (kids_len X hok k hkn)
  have HBA := Lib.hid hbare
  have HSH := Lib.hid hsh
  have KB := Lib.hid KB0
  have HML := Lib.hid hml
  have HLL := Lib.hid hll
  have HGT := Lib.hid hgt
  clear hok hN hml hll hgt KB0 hbare hek hek0 h1 h2 hsh h9
  generalize X.kl k = l at *
  generalize e' = e at *
  go_enter Try.func32, Try.ntmps32
  go_upto_region 1 with fail
  go_cut [5, 6] (fun s8 s9 wx => ∃ (g : Nat) (A3 : Option Addr) (c3 : Nat), s8 = .pointer (some ⟨g, 0, none⟩) ∧ s9 = .slice A3 l.length c3 ∧ Hid (ShI X.n e l w wx g A3 c3))
  case first =>
    go_region_held3 (fun w' => (Below w.heap.size w w' ∧ w'.cell? ⟨X.b, X.o + k * 5, none⟩ = some (.int .i64 e.kind) ∧ w'.cell? ⟨X.b, X.o + k * 5 + 1, none⟩ = some (.int .i64 e.op) ∧ w'.cell? ⟨X.b, X.o + k * 5 + 2, none⟩ = some (.string e.text) ∧ w'.cell? ⟨X.b, X.o + k * 5 + 3, none⟩ = some (.int .i64 e.flag) ∧ w'.cell? ⟨X.b, X.o + k * 5 + 4, none⟩ = some (.int .i64 e.size)) ∧ w'.cell? ⟨X.bB, 0, none⟩ = some (.slice (some ⟨X.b, X.o, none⟩) X.n X.c))
      ((refine keepR ?_ c0 c1 c2 c3 c4 b0; repeat (first | with_reducible exact Below.refl _ _ | with_reducible exact hk9 | with_reducible apply Below.drew | with_reducible apply belowS_alloc | (with_reducible refine belowS_set ?_ (Nat.le_refl _) _))))
      (first
        | (go_at_call 41; refine (KB.out w.drew (Below.refl _ _).drew).mono ?_; rintro e9 w9 ⟨⟨A9, c9, rfl, hr9⟩, hb9⟩; have hk9 : Below w.heap.size w w9 := below_of1 hb9)
        | (go_at_call 41; refine (KB.out (w.alloc (.cells zeroA 26)).drew (belowS_alloc (Below.refl _ _) _).drew).mono ?_; rintro e9 w9 ⟨⟨A9, c9, rfl, hr9⟩, hb9⟩; have hk9 : Below w.heap.size w w9 := below_of2 hb9; have hN := blk_of2 hb9; have hbs : w.heap.size + 1 ≤ (w.alloc (.cells zeroA 26)).drew.heap.size := (by show w.heap.size + 1 ≤ (w.alloc _).heap.size; simp); have n0 := hN.cell 0; have n1 := hN.cell 1; have n2 := hN.cell 2; have n3 := hN.cell 3; have n4 := hN.cell 4; have m0 := hN.frozen 0; have m1 := hN.frozen 1; have m2 := hN.frozen 2; have m3 := hN.frozen 3; have m4 := hN.frozen 4; simp only [zeroA, List.getElem?_toArray, List.getElem?_cons_zero, List.getElem?_cons_succ] at n0 n1 n2 n3 n4)
        | (go_at_call 41; refine (KB.out (w.alloc (.cells (cellsA e) 26)).drew (belowS_alloc (Below.refl _ _) _).drew).mono ?_; rintro e9 w9 ⟨⟨A9, c9, rfl, hr9⟩, hb9⟩; have hk9 : Below w.heap.size w w9 := below_of2 hb9; have hN := blk_of2 hb9))
    all_goals
      go_wp2_with fail
      go_meet
      first
        | (have hz9 := hbs; exact ⟨_, _, _, rfl, rfl, Lib.hid (shI_2 hk9 hr9 HML.out HLL.out hN hz9)⟩)
        | (have hz9 := hN; exact ⟨_, _, _, rfl, rfl, Lib.hid (shI_3 hk9 hr9 HML.out HLL.out hz9)⟩)
        | exact ⟨_, _, _, rfl, rfl, Lib.hid (shI_1 hk9 hr9 HML.out HLL.out)⟩
  case rest =>
    obtain ⟨gb, A3, q3, rfl, rfl, HI2⟩ := hcut
    obtain ⟨hbx, hko, hb⟩ := HI2.out
    have HGc := Lib.hid (H.out.go hb)
    have x0 := hbx.cell 0
    have x1 := hbx.cell 1
    have x2 := hbx.cell 2
    have x3 := hbx.cell 3
    have x4 := hbx.cell 4
    simp only [cellsA, List.getElem?_toArray, List.getElem?_cons_zero, List.getElem?_cons_succ] at x0 x1 x2 x3 x4
    have HKO := Lib.hid hko
    have HB3 := Lib.hid hbx
    have KL := Lib.hid (leaf_any X e wc HGc.out.2 HH9.out)
    clear HI2 c0 c1 c2 c3 c4 b0 hbx hko hb
    rcases HK3.out with hl | ⟨hl, hk⟩
    · have HL := Lib.hid hl
      obtain ⟨rfl, hk23⟩ := leaf_nil hl HSH.out
      have HK23 := Lib.hid hk23
      have zl : (([] : List Nat).length) = 0 := rfl
      clear hl hk23
      go_wp2_with fail
      refine KL.out.mono ?_
      rintro e1 w1 ⟨hp, hw1⟩
      obtain ⟨g1, rfl⟩ : ∃ g, e1 = .returned (.iface (tyOf e.kind) (.pointer (some ⟨g, 0, none⟩))) := by
        rcases hp with ⟨-, hg⟩ | ⟨hf, -⟩
        · exact hg
        · rw [HL.out] at hf; cases hf
      have HG1 := Lib.hid (HGc.out.then hw1)
      obtain ⟨ty, hty⟩ : ∃ ty, tyOf e.kind = ty := ⟨_, rfl⟩
      have HTY := Lib.hid hty
      rw [hty]
      clear hp hw1 hty
      go_wp2_with fail
      go_ret
      exact ⟨⟨g1, by rw [HTY.out]; rfl, fun h => absurd h HK23.out⟩, HG1.out⟩
    · have HL := Lib.hid hl
      clear hl
      go_wp2_with fail
      refine KL.out.mono ?_
      rintro e1 w1 ⟨hp, hw1⟩
      obtain rfl : e1 = .returned .nilIface := by
        rcases hp with ⟨hf, -⟩ | ⟨-, hf⟩
        · rw [HL.out] at hf; cases hf
        · exact hf
      have hg1 := HGc.out.2.go hw1
      have HG1 := Lib.hid (HGc.out.trans hg1)
      have hB1 := hg1.blk HGc.out.2 HB3.out (by decide)
      have HKO1 := Lib.hid (hg1.kids HGc.out.2 HKO.out)
      have HB1 := Lib.hid hB1
      have y0 := hB1.cell 0
      have y1 := hB1.cell 1
      have y2 := hB1.cell 2
      have y3 := hB1.cell 3
      have y4 := hB1.cell 4
      simp only [cellsA, List.getElem?_toArray, List.getElem?_cons_zero, List.getElem?_cons_succ] at y0 y1 y2 y3 y4
      clear hp hw1 hg1 hB1
      rcases hk with ⟨hk, hk9⟩ | hk
      · have KF := Lib.hid (both_sum X HOK.out e w1 HG1.out.2 (k + 1) HN.out A3 q3 l HKO1.out (fun j hj => HGT.out j hj) HSH.out HBA.out HKL.out hk hk9)
        clear hk hk9
        go_wp2_with fail
        refine KF.out.mono ?_
        rintro e2 w2 ⟨⟨g2, rfl, h23⟩, hgo2⟩
        have HG2 := Lib.hid (HG1.out.trans hgo2)
        have H23 := Lib.hid h23
        obtain ⟨ty, hty⟩ : ∃ ty, tyOf e.kind = ty := ⟨_, rfl⟩
        have HTY := Lib.hid hty
        rw [hty]
        clear h23 hgo2 hty
        go_wp2_with fail
        go_ret
        exact ⟨⟨g2, by rw [HTY.out]; rfl, H23.out⟩, HG2.out⟩
      · have KF0 := Lib.hid (both_none X e w1 HG1.out.2 A3 l.length q3 (by omega))
        have KF := Lib.hid (fun (w' : World) (hg : X.Go w1 w') => sugar_sum X HOK.out e w' hg.2 (k + 1) HN.out A3 q3 l (hg.kids HG1.out.2 HKO1.out) (fun j hj => HGT.out j hj) HSH.out HBA.out HKL.out hk)
        clear hk
        go_wp2_with fail
        refine KF0.out.mono ?_
        rintro e2 w2 ⟨rfl, hgo2⟩
        have HG2 := Lib.hid (HG1.out.trans hgo2)
        have HGO2 := Lib.hid hgo2
        have hB2 := hgo2.blk HG1.out.2 HB1.out (by decide)
        have z0 := hB2.cell 0
        have z1 := hB2.cell 1
        have z2 := hB2.cell 2
        have z3 := hB2.cell 3
        have z4 := hB2.cell 4
        have b1 := HG2.out.2.2.2.2.1.cell 1
        simp only [Cx.cells, cellsA, List.getElem?_toArray, List.getElem?_cons_zero, List.getElem?_cons_succ] at z0 z1 z2 z3 z4 b1
        clear hgo2 hB2
        go_wp2_with fail
        refine (KF.out _ HGO2.out).mono ?_
        rintro e3 w3 ⟨⟨g2, rfl, h23⟩, hgo3⟩
        have HG3 := Lib.hid (HG2.out.trans hgo3)
        have H23 := Lib.hid h23
        obtain ⟨ty, hty⟩ : ∃ ty, tyOf e.kind = ty := ⟨_, rfl⟩
        have HTY := Lib.hid hty
        rw [hty]
        clear h23 hgo3 hty
        go_wp2_with fail
        go_ret
        exact ⟨⟨g2, by rw [HTY.out]; rfl, H23.out⟩, HG3.out⟩
end Go.Proofs.Ytdhhdnopilfifaa
