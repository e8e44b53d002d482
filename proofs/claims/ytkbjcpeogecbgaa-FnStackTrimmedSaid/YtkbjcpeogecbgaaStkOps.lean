/-
  The methods of the stack: clearCurrentTrace, setCurrentTrace, popIfExists, tailCallTrimStack.
-/
import Derived.Test.YtkbjcpeogecbgaaStkMem
import Derived.StillTailTactics
namespace Go.Proofs.Ytkbjcpeogecbgaa
open Go.RowKit Go.Maps

theorem grownBy_set (w : World) (p : Addr) (v : Value) : w.grownBy (w.setCell p v) (some p.block) :=
  ⟨rfl, rfl, rfl, by simp [World.setCell], fun i _ hi => Below.heap_setCell w p v i (fun e => hi (by rw [e]))⟩
theorem own_set {base e size n g : Nat} {w : World} {v : Value} {xs : List Value} {t : TypeId} {cs : Array Value} (h : w.ownsRow base e size v n xs) (hb : Blk w g t cs) (he : e ≠ t) (k : Nat) (u : Value) : (w.setCell ⟨g, k, none⟩ u).ownsRow base e size v n xs :=
  h.kept (grownBy_set w _ u) (.inr (own_blk_ne h hb he))
theorem frs_set {w : World} {B bS : Nat} {ps : List Value} {F : List (Bool × Bool)} {cs : Array Value} (h : Frs w B ps F) (hb : Blk w bS 47 cs) (k : Nat) (u : Value) : Frs (w.setCell ⟨bS, k, none⟩ u) B ps F :=
  h.keptT ((KeptT.refl w).set hb k u)
theorem size_set (w : World) (p : Addr) (u : Value) : (w.setCell p u).heap.size = w.heap.size := by simp [World.setCell]

/-- One cell of the stack is written. -/
theorem si_set {w : World} {base bS : Nat} {F : List (Bool × Bool)} {c lim : Int} {v : Value} {ps : List Value} {t1 t2 : Option Addr} (hB : Blk w bS 47 #[.pointer t1, .pointer t2, v, .int .i64 c, .int .i64 lim]) (hO : w.ownsRow base 88 1 v F.length ps) (hF : Frs w w.heap.size ps F) (hb : base ≤ bS) (k : Nat) (u : Value) :
    Blk (w.setCell ⟨bS, k, none⟩ u) bS 47 ((#[.pointer t1, .pointer t2, v, .int .i64 c, .int .i64 lim] : Array Value).setIfInBounds k u) ∧ (w.setCell ⟨bS, k, none⟩ u).ownsRow base 88 1 v F.length ps ∧ Frs (w.setCell ⟨bS, k, none⟩ u) (w.setCell ⟨bS, k, none⟩ u).heap.size ps F ∧
    Below base w (w.setCell ⟨bS, k, none⟩ u) ∧ KeptT w (w.setCell ⟨bS, k, none⟩ u) :=
  ⟨hB.set_ k u, own_set hO hB (by decide) k u, by rw [size_set]; exact frs_set hF hB k u, (Below.refl base w).setCell (p := ⟨bS, k, none⟩) hb u, (KeptT.refl w).set hB k u⟩
theorem si_trace {w : World} {base bS : Nat} {F : List (Bool × Bool)} {c lim : Int} {v : Value} {ps : List Value} {t1 t2 : Option Addr} (hB : Blk w bS 47 #[.pointer t1, .pointer t2, v, .int .i64 c, .int .i64 lim]) (hO : w.ownsRow base 88 1 v F.length ps) (hF : Frs w w.heap.size ps F) (hb : base ≤ bS) (x1 x2 : Option Addr) :
    MPost base bS F c x1 x2 w (.returned (.tuple #[])) ((w.setCell ⟨bS, 0, none⟩ (.pointer x1)).setCell ⟨bS, 1, none⟩ (.pointer x2)) := by
  obtain ⟨a1, a2, a3, a4, a5⟩ := si_set hB hO hF hb 0 (.pointer x1)
  have a1' : Blk (w.setCell ⟨bS, 0, none⟩ (.pointer x1)) bS 47 #[.pointer x1, .pointer t2, v, .int .i64 c, .int .i64 lim] := by simpa using a1
  obtain ⟨b1, b2, b3, b4, b5⟩ := si_set a1' a2 a3 hb 1 (.pointer x2)
  exact ⟨rfl, ⟨v, ps, lim, by simpa using b1, b2, b3⟩, a4.trans b4, a5.trans b5⟩
theorem MPost.trans {base bS : Nat} {F : List (Bool × Bool)} {c : Int} {t1 t2 : Option Addr} {w w1 w2 : World} {e : Ending} (h1 : Below base w w1) (h2 : KeptT w w1) (h : MPost base bS F c t1 t2 w1 e w2) : MPost base bS F c t1 t2 w e w2 :=
  ⟨h.1, h.2.1, h1.trans h.2.2.1, h2.trans h.2.2.2⟩
theorem SI.same {w w' : World} {base bS : Nat} {F : List (Bool × Bool)} {c : Int} {t1 t2 : Option Addr} (h : SI w base bS F c t1 t2) (hb : Below w.heap.size w w') : SI w' base bS F c t1 t2 := by
  obtain ⟨v, ps, lim, h1, h2, h3⟩ := h
  refine ⟨v, ps, lim, h1.below hb h1.lt, ?_, (h3.below hb (Nat.le_refl _)).more hb.size⟩
  refine ⟨h2.1, ?_⟩
  rcases h2.2 with h4 | ⟨g, cap, cur, h5, h6, h7, h8⟩
  · exact .inl h4
  · exact .inr ⟨g, cap, cur, h5, h6, Blk.below h7 hb (Blk.lt h7), h8⟩

set_option maxRecDepth 100000 in
theorem clear_any (base bS : Nat) (F : List (Bool × Bool)) (c : Int) (t1 t2 : Option Addr) (w : World) (h : SI w base bS F c t1 t2) (hb : base ≤ bS) :
    Calls Try.prog 13 #[.pointer (some ⟨bS, 0, none⟩)] w (MPost base bS F c none none w) := by
  obtain ⟨v, ps, lim, hB, hO, hF⟩ := h
  have c0 := hB.cell 0
  have c1 := hB.cell 1
  have f0 := hB.frozen 0
  have f1 := hB.frozen 1
  simp only [List.getElem?_toArray, List.getElem?_cons_zero, List.getElem?_cons_succ] at c0 c1
  have HB := Lib.hid hB
  have HO := Lib.hid hO
  have HF := Lib.hid hF
  clear hB hO hF
  go_enter Try.func13, Try.ntmps13
  go_wp2
  go_end0
  exact si_trace HB.out HO.out HF.out hb none none

theorem eq_loc (w : World) : (Op.equalIn 9999 40 (.pointer none) (.pointer none)).run Try.prog w = .ok true w := by kernel_rfl
theorem eq_ctx (w : World) : (Op.equalIn 9999 42 (.pointer none) (.pointer none)).run Try.prog w = .ok true w := by kernel_rfl
theorem ne_loc (a : Addr) (w : World) : (Op.equalIn 9999 40 (.pointer (some a)) (.pointer none)).run Try.prog w = .ok false w := by kernel_rfl
set_option maxRecDepth 100000 in
theorem setTrace_any (base bS : Nat) (F : List (Bool × Bool)) (c : Int) (x1 x2 : Option Addr) (w : World) (h : SI w base bS F c none none) (hb : base ≤ bS) :
    Calls Try.prog 14 #[.pointer (some ⟨bS, 0, none⟩), .agg #[.pointer x1, .pointer x2]] w (MPost base bS F c x1 x2 w) := by
  have hb0 : Below w.heap.size w (w.alloc (.cells #[.pointer x1, .pointer x2] 44)) := (Below.refl _ _).alloc (Nat.le_refl _) _
  have HB0 := Lib.hid ((Below.refl base w).trans (hb0.mono (by obtain ⟨v, ps, lim, h1, -⟩ := h; have := h1.lt; omega)))
  have HK0 := Lib.hid (KeptT.of_below hb0)
  have h1 := h.same hb0
  obtain ⟨v, ps, lim, hB, hO, hF⟩ := h1
  have c0 := hB.cell 0
  have c1 := hB.cell 1
  have f0 := hB.frozen 0
  have f1 := hB.frozen 1
  simp only [List.getElem?_toArray, List.getElem?_cons_zero, List.getElem?_cons_succ] at c0 c1
  have HB := Lib.hid hB
  have HO := Lib.hid hO
  have HF := Lib.hid hF
  clear hB hO hF hb0 h
  have e1 := eq_loc
  have e2 := eq_ctx
  go_enter Try.func14, Try.ntmps14
  go_wp2
  go_end0
  exact MPost.trans HB0.out HK0.out (si_trace HB.out HO.out HF.out hb x1 x2)

theorem own_sl {w : World} {base e n : Nat} {v : Value} {xs : List Value} (h : w.ownsRow base e 1 v n xs) (hn : 0 < n) : ∃ g c, v = .slice (some ⟨g, 0, none⟩) n c := by
  rcases h.2 with ⟨rfl, rfl⟩ | ⟨g, cap, cur, rfl, _⟩
  · have := h.1
    simp at this
    omega
  · exact ⟨g, cap, rfl⟩
theorem own_cap {w : World} {base e n g c : Nat} {xs : List Value} (h : w.ownsRow base e 1 (.slice (some ⟨g, 0, none⟩) n c) n xs) : n ≤ c ∧ c ≤ 9223372036854775807 := by
  rcases h.2 with ⟨h1, _⟩ | ⟨g', cap, cur, h1, h2, h3, h4, h5, h6, h7⟩
  · cases h1
  · injection h1 with h1 h8 h9
    subst h9
    unfold maxLen at h5
    omega
/-- The list of frames, cut: what is kept. -/
theorem own_cut {w : World} {base e n g c : Nat} {xs : List Value} (h : w.ownsRow base e 1 (.slice (some ⟨g, 0, none⟩) n c) n xs) {q : Nat} (hq : q ≤ n) : w.ownsRow base e 1 (.slice (some ⟨g, 0, none⟩) q c) q (xs.take q) := by
  rcases h.2 with ⟨h1, _⟩ | ⟨g', cap, cur, h1, h2, h3, h4, h5, h6, h7⟩
  · cases h1
  · injection h1 with h1 h8 h9
    injection h1 with h1
    injection h1 with h1 _
    subst h1 h9
    refine ⟨by rw [List.length_take, h.1]; omega, .inr ⟨g, c, cur, rfl, h2, h3, by omega, h5, h6, ?_⟩⟩
    rw [← h7, List.take_take]
    congr 1
    omega
theorem Frs.at_ {w : World} {B : Nat} {ps : List Value} {F : List (Bool × Bool)} (h : Frs w B ps F) {q : Nat} (hq : q < F.length) : ∃ p, ps[q]? = some p ∧ FrN w B p (F.getD q (false, false)) := by
  have hp : q < ps.length := by rw [h.1]; exact hq
  refine ⟨ps[q], List.getElem?_eq_getElem hp, h.2 q _ _ (List.getElem?_eq_getElem hp) ?_⟩
  rw [List.getD_eq_getElem?_getD, List.getElem?_eq_getElem hq]
  rfl
theorem si_cut {w : World} {base bS : Nat} {F : List (Bool × Bool)} {c c' lim : Int} {g cap : Nat} {ps : List Value} {t1 t2 : Option Addr} (hB : Blk w bS 47 #[.pointer t1, .pointer t2, .slice (some ⟨g, 0, none⟩) F.length cap, .int .i64 c, .int .i64 lim]) (hO : w.ownsRow base 88 1 (.slice (some ⟨g, 0, none⟩) F.length cap) F.length ps) (hF : Frs w w.heap.size ps F) (hb : base ≤ bS) {q : Nat} (hq : q ≤ F.length) :
    MPost base bS (F.take q) c' t1 t2 w (.returned (.tuple #[])) ((w.setCell ⟨bS, 2, none⟩ (.slice (some ⟨g, 0, none⟩) q cap)).setCell ⟨bS, 3, none⟩ (.int .i64 c')) := by
  obtain ⟨a1, a2, a3, a4, a5⟩ := si_set hB hO hF hb 2 (.slice (some ⟨g, 0, none⟩) q cap)
  have hl : (F.take q).length = q := by simp; omega
  have a2' := own_cut a2 hq
  have a3' := a3.take q
  have hw : (w.setCell ⟨bS, 2, none⟩ (.slice (some ⟨g, 0, none⟩) q cap)).heap.size = w.heap.size := size_set _ _ _
  generalize w.setCell ⟨bS, 2, none⟩ (.slice (some ⟨g, 0, none⟩) q cap) = w1 at *
  have a1' : Blk w1 bS 47 #[.pointer t1, .pointer t2, .slice (some ⟨g, 0, none⟩) q cap, .int .i64 c, .int .i64 lim] := by simpa using a1
  obtain ⟨b1, b2, b3, b4, b5⟩ := si_set (F := F.take q) a1' (by rw [hl]; exact a2') a3' hb 3 (.int .i64 c')
  exact ⟨rfl, ⟨_, ps.take q, lim, by simpa using b1, b2, b3⟩, a4.trans b4, a5.trans b5⟩

set_option maxRecDepth 100000 in
set_option maxHeartbeats 1600000 in
theorem trim_any (base bS : Nat) (F : List (Bool × Bool)) (c : Int) (t1 t2 : Option Addr) (w : World) (h : SI w base bS F c t1 t2) (hb : base ≤ bS) (hc : -1000 ≤ c ∧ c ≤ 1000) (hl : F.length ≤ 1000) :
    Calls Try.prog 21 #[.pointer (some ⟨bS, 0, none⟩)] w (MPost base bS (trimFrom F c F.length).1 (trimFrom F c F.length).2 t1 t2 w) := by
  have HS := Lib.hid h
  obtain ⟨v, ps, lim, hB, hO, hF⟩ := h
  obtain ⟨A, cap, rfl⟩ : ∃ A cap, v = .slice A F.length cap := by
    rcases hO.2 with ⟨rfl, h0⟩ | ⟨g, cap, cur, rfl, _⟩
    · exact ⟨none, 0, by rw [h0]⟩
    · exact ⟨_, cap, rfl⟩
  have c2 := hB.cell 2
  have c3 := hB.cell 3
  have f2 := hB.frozen 2
  have f3 := hB.frozen 3
  simp only [List.getElem?_toArray, List.getElem?_cons_zero, List.getElem?_cons_succ] at c2 c3
  have HB := Lib.hid hB
  have HO := Lib.hid hO
  have HF := Lib.hid hF
  clear hB hO hF
  go_enter Try.func21, Try.ntmps21
  go_wp2
  go_loop [2] (fun t => ∃ q : Nat, q ≤ F.length ∧ t = .int .i64 ((q : Int) - 1) ∧ Hid (trimFrom F c F.length = trimFrom F c q)) (fun t => (intOf t + 1).toNat)
  case atStart => exact ⟨F.length, Nat.le_refl _, rfl, Lib.hid rfl⟩
  case round =>
    obtain ⟨q, hq, rfl, HQ⟩ := hrel
    rcases q with _ | q
    · go_wp2
      go_end0
      rw [HQ.out]
      exact ⟨rfl, HS.out, Below.refl _ _, KeptT.refl _⟩
    · have e1 : ((q + 1 : Nat) : Int) - 1 = (q : Int) := by omega
      rw [e1]
      obtain ⟨g, cap', hv⟩ := own_sl HO.out (by omega)
      injection hv with hA _ hcap
      subst hA hcap
      obtain ⟨hlc, hcm⟩ := own_cap HO.out
      obtain ⟨p, hp, hfr⟩ := HF.out.at_ (show q < F.length by omega)
      obtain ⟨gf, bm, l1, l2, l3, d, rfl, hgf, -, hBf⟩ := hfr
      have r0 : w.cell? ⟨g, q, none⟩ = some (.pointer (some ⟨gf, 0, none⟩)) := by rw [HO.out.cellAt q (by omega), hp]
      have r5 := hBf.cell 5
      have r6 := hBf.cell 6
      simp only [List.getElem?_toArray, List.getElem?_cons_zero, List.getElem?_cons_succ] at r5 r6
      have HT : Hid (trimFrom F c (q + 1) = if (F.getD q (false, false)).1 = true then (if (F.getD q (false, false)).2 = true then (F.take q, c - 1) else (F, c)) else trimFrom F c q) := Lib.hid rfl
      clear hp hBf e1
      generalize F.getD q (false, false) = kk at HT r5 r6
      obtain ⟨k1, k2⟩ := kk
      cases k1
      · have HT2 := HT.out
        simp only [Bool.false_eq_true, if_false] at HT2
        have HT3 := Lib.hid HT2
        clear HT2 HT
        go_wp2
        go_round
        case rel => exact ⟨q, by omega, by go_num, Lib.hid (by rw [HQ.out, HT3.out])⟩
        case measure => simp [intOf]
      · cases k2
        · have HT2 := HT.out
          simp only [Bool.false_eq_true, if_false, if_true] at HT2
          have HT3 := Lib.hid HT2
          clear HT2 HT
          go_wp2
          go_end0
          rw [HQ.out, HT3.out]
          exact ⟨rfl, HS.out, Below.refl _ _, KeptT.refl _⟩
        · have HT2 := HT.out
          simp only [if_true] at HT2
          have HT3 := Lib.hid HT2
          clear HT2 HT
          go_wp2
          go_end0
          rw [HQ.out, HT3.out]
          exact si_cut HB.out HO.out HF.out hb (by omega)
end Go.Proofs.Ytkbjcpeogecbgaa
