/-
  makeValueRestrictedObject; makeValueExtendedObject with any object on the left.
-/
import Derived.Test.YtkbjcpeogecbgaaDoorFvMake
import Derived.Test.YtkbjcpeogecbgaaDoorFvVis
namespace Go.Proofs.YtkbjcpeogecbgaaDoor
open Go.RowKit Go.Maps

abbrev St := Bool × ByteArray × AL
def stepO (o : OT) (k : Nat) (j : St) : OT :=
  if j.1 = true then .restr o (delF (visO o) j.2.1) else if k = 0 then .simple j.2.2 else .ext o j.2.2
/-- The object that the first k steps make. -/
def objK (ss : List St) : Nat → OT
  | 0 => .simple []
  | k + 1 => stepO (objK ss k) k (ss.getD k (false, ByteArray.empty, []))
theorem objK_succ (ss : List St) (k : Nat) : objK ss (k + 1) = stepO (objK ss k) k (ss.getD k (false, ByteArray.empty, [])) := rfl
theorem objK_size (ss : List St) : ∀ k, sizeO (objK ss k) ≤ k + 1
  | 0 => by simp [objK, sizeO]
  | k + 1 => by
    have := objK_size ss k
    simp only [objK, stepO]
    split
    · simp only [sizeO]; omega
    · split
      · simp only [sizeO]; omega
      · simp only [sizeO]; omega
def stJ (j : FE) : St := (j.is, j.rm, alOf j)
def OkR (j : FE) : Prop := j.n = j.n2 ∧ j.n ≤ 12 ∧ (∀ s ∈ j.ns, s.size ≤ maxLen) ∧ j.rm.size ≤ maxLen

theorem objVis_any (o : OT) (p : Value) (w : World) (h : VO w w.heap.size o p) (hs : sizeO o ≤ 1000) : Calls Tryd.prog 30 #[p] w (ViPost o w) := by
  obtain ⟨g, m, vl, rfl, hg, hB, ho⟩ := h
  have K := Lib.hid (vis_any o vl w ho hs)
  have c2 := hB.cell 2
  simp only [List.getElem?_toArray, List.getElem?_cons_zero, List.getElem?_cons_succ] at c2
  clear hB ho
  go_enter Tryd.func30, Tryd.ntmps30
  go_wp2_with fail
  refine K.out.mono ?_
  rintro e1 w1 ⟨⟨b, n, rfl, hb, hm, hn⟩, hb1⟩
  have H := Lib.hid hm
  clear hm
  go_wp2_with fail
  go_ret
  exact ⟨⟨b, n, rfl, hb, H.out, hn⟩, hb1⟩
/-- What the making of a restricted object leaves. -/
def RPost (o : OT) (w : World) (e : Ending) (w' : World) : Prop :=
  (∃ g m gr b n vo, e = .returned (.pointer (some ⟨g, 0, none⟩)) ∧ Blk w' g 68 #[.nilIface, .map (some m), .iface 97 (.pointer (some ⟨gr, 0, none⟩))] ∧
    Blk w' gr 96 #[vo, .map (some b)] ∧ OB w' w.heap.size o vo ∧ HMap w' b n (visO o) ∧ n ≤ 12 * sizeO o ∧ w.heap.size ≤ b ∧ w.heap.size ≤ g ∧ w.heap.size ≤ gr) ∧ Below w.heap.size w w'
theorem keep1 {w w' : World} (hb : Below w.heap.size w w') {p1 : Addr} {u1 : Value} (c1 : w.cell? p1 = some u1) : Below w.heap.size w w' ∧ w'.cell? p1 = some u1 :=
  ⟨hb, (hb.cell (World.block_lt_of_cell? w p1 c1)).trans c1⟩
theorem r_leaf {o : OT} {w w9 W : World} {b n g m gr : Nat} {vo : Value} (hk9 : Below w.heap.size w w9) (ho : OB w w.heap.size o vo) (hm : HMap w9 b n (visO o)) (hn : n ≤ 12 * sizeO o) (hb : w.heap.size ≤ b) (hW : Below w9.heap.size w9 W)
    (hg : Blk W g 68 #[.nilIface, .map (some m), .iface 97 (.pointer (some ⟨gr, 0, none⟩))]) (hr : Blk W gr 96 #[vo, .map (some b)]) (h1 : w.heap.size ≤ g) (h2 : w.heap.size ≤ gr) :
    RPost o w (.returned (.pointer (some ⟨g, 0, none⟩))) W :=
  have hb' := hk9.trans (hW.mono hk9.size)
  ⟨⟨g, m, gr, b, n, vo, rfl, hg, hr, OB.below hb' (Nat.le_refl _) ho, hm.below hW hm.lt, hn, hb, h1, h2⟩, hb'⟩
theorem r_leaf1 {o : OT} {w w9 : World} {b n m : Nat} {vo : Value} (hk9 : Below w.heap.size w w9) (ho : OB w w.heap.size o vo) (hm : HMap w9 b n (visO o)) (hn : n ≤ 12 * sizeO o) (hb : w.heap.size ≤ b) :
    RPost o w (.returned (.pointer (some ⟨w9.heap.size + 1, 0, none⟩))) (((w9.alloc (.cells #[vo, .map (some b)] 96)).alloc (.cells #[.nilIface, .map (some m), .iface 97 (.pointer (some ⟨w9.heap.size, 0, none⟩))] 68))) := by
  refine r_leaf (m := m) (gr := w9.heap.size) hk9 ho hm hn hb ?_ ?_ ?_ ?_ ?_
  · repeat (first | exact Below.refl _ _ | apply Below.drew | apply belowS_alloc)
  · have := Blk.new (w9.alloc (.cells #[vo, .map (some b)] 96)) 68 #[.nilIface, .map (some m), .iface 97 (.pointer (some ⟨w9.heap.size, 0, none⟩))]
    simpa using this
  · have := ((Blk.new w9 96 #[vo, .map (some b)]).alloc (.cells #[.nilIface, .map (some m), .iface 97 (.pointer (some ⟨w9.heap.size, 0, none⟩))] 68))
    simpa using this
  · have := hk9.size; omega
  · have := hk9.size; omega
theorem r_leaf2 {o : OT} {w w9 : World} {b n : Nat} {vo : Value} (hk9 : Below w.heap.size w w9) (ho : OB w w.heap.size o vo) (hm : HMap w9 b n (visO o)) (hn : n ≤ 12 * sizeO o) (hb : w.heap.size ≤ b) :
    RPost o w (.returned (.pointer (some ⟨w9.heap.size + 1 + 1, 0, none⟩))) ((((w9.alloc (.map #[] 0)).alloc (.cells #[vo, .map (some b)] 96)).alloc (.cells #[.nilIface, .map (some w9.heap.size), .iface 97 (.pointer (some ⟨w9.heap.size + 1, 0, none⟩))] 68))) := by
  refine r_leaf (m := w9.heap.size) (gr := w9.heap.size + 1) hk9 ho hm hn hb ?_ ?_ ?_ ?_ ?_
  · repeat (first | exact Below.refl _ _ | apply Below.drew | apply belowS_alloc)
  · have := Blk.new ((w9.alloc (.map #[] 0)).alloc (.cells #[vo, .map (some b)] 96)) 68 #[.nilIface, .map (some w9.heap.size), .iface 97 (.pointer (some ⟨w9.heap.size + 1, 0, none⟩))]
    simpa using this
  · have := ((Blk.new (w9.alloc (.map #[] 0)) 96 #[vo, .map (some b)]).alloc (.cells #[.nilIface, .map (some w9.heap.size), .iface 97 (.pointer (some ⟨w9.heap.size + 1, 0, none⟩))] 68))
    simpa using this
  · have := hk9.size; omega
  · have := hk9.size; omega
theorem r_leaf3 {o : OT} {w w9 : World} {b n : Nat} {vo : Value} (hk9 : Below w.heap.size w w9) (ho : OB w w.heap.size o vo) (hm : HMap w9 b n (visO o)) (hn : n ≤ 12 * sizeO o) (hb : w.heap.size ≤ b) :
    RPost o w (.returned (.pointer (some ⟨w9.heap.size + 1 + 1, 0, none⟩))) ((((w9.alloc (.cells #[vo, .map (some b)] 96)).alloc (.map #[] 0)).alloc (.cells #[.nilIface, .map (some (w9.heap.size + 1)), .iface 97 (.pointer (some ⟨w9.heap.size, 0, none⟩))] 68))) := by
  refine r_leaf (m := (w9.heap.size + 1)) (gr := w9.heap.size) hk9 ho hm hn hb ?_ ?_ ?_ ?_ ?_
  · repeat (first | exact Below.refl _ _ | apply Below.drew | apply belowS_alloc)
  · have := Blk.new ((w9.alloc (.cells #[vo, .map (some b)] 96)).alloc (.map #[] 0)) 68 #[.nilIface, .map (some (w9.heap.size + 1)), .iface 97 (.pointer (some ⟨w9.heap.size, 0, none⟩))]
    simpa using this
  · have := (((Blk.new w9 96 #[vo, .map (some b)]).alloc (.map #[] 0)).alloc (.cells #[.nilIface, .map (some (w9.heap.size + 1)), .iface 97 (.pointer (some ⟨w9.heap.size, 0, none⟩))] 68))
    simpa using this
  · have := hk9.size; omega
  · have := hk9.size; omega
theorem below_of1 {w w9 : World} (h : Below w.drew.heap.size w.drew w9) : Below w.heap.size w w9 := (Below.refl w.heap.size w).drew.trans h
theorem below_of2 {w w9 : World} {x : Obj} (h : Below (w.alloc x).drew.heap.size (w.alloc x).drew w9) : Below w.heap.size w w9 :=
  (belowS_alloc (Below.refl w.heap.size w) x).drew.trans (h.mono (by show w.heap.size ≤ (w.alloc x).heap.size; simp))
theorem le_of2 {w : World} {x : Obj} {b : Nat} (h : (w.alloc x).drew.heap.size ≤ b) : w.heap.size ≤ b := by
  have : (w.alloc x).heap.size ≤ b := h
  simp at this
  omega
set_option maxRecDepth 100000 in
set_option maxHeartbeats 1600000 in
theorem makeRestr_any (o : OT) (p : Value) (w : World) (h : VO w w.heap.size o p) (hs : sizeO o ≤ 1000) : Calls Tryd.prog 33 #[p] w (RPost o w) := by
  have hmm := @run_makeMap Tryd.prog
  have KV := Lib.hid (fun (w' : World) (hb : Below w.heap.size w w') => objVis_any o p w' ((h.below hb (Nat.le_refl _)).more hb.size) hs)
  obtain ⟨g, m, vl, rfl, hg, hB, ho⟩ := h
  have HO := Lib.hid ho
  have c2 := hB.cell 2
  simp only [List.getElem?_toArray, List.getElem?_cons_zero, List.getElem?_cons_succ] at c2
  obtain ⟨tl, gl, rfl, hgl⟩ := ho.shape
  clear hB ho
  go_enter Tryd.func33, Tryd.ntmps33
  go_wp2_with fail
  go_region_held3 (fun w' => Below w.heap.size w w' ∧ w'.cell? ⟨g, 2, none⟩ = some (.iface tl (.pointer (some ⟨gl, 0, none⟩))))
    ((refine keep1 ?_ c2; repeat (first | with_reducible exact Below.refl _ _ | with_reducible exact hk9 | with_reducible apply Below.drew | with_reducible apply belowS_alloc)))
    ((go_at_call 30; refine (KV.out _ ?_).mono ?_; (repeat (first | with_reducible exact Below.refl _ _ | with_reducible apply Below.drew | with_reducible apply belowS_alloc)); rintro e9 w9 ⟨⟨b9, n9, rfl, hb9, hm9, hn9⟩, hbb9⟩; have hk9 : Below w.heap.size w w9 := (by first | exact below_of1 hbb9 | exact below_of2 hbb9); have hb0 : w.heap.size ≤ b9 := (by first | exact hb9 | exact le_of2 hb9)))
  all_goals
    go_wp2_with fail
    go_ret
    first
      | exact r_leaf1 hk9 HO.out hm9 hn9 hb0
      | exact r_leaf2 hk9 HO.out hm9 hn9 hb0
      | exact r_leaf3 hk9 HO.out hm9 hn9 hb0
set_option maxRecDepth 100000 in
set_option maxHeartbeats 1600000 in
theorem makeExtR_any (o : OT) (L : AL) (p q : Value) (w : World) (h1 : VO w w.heap.size o p) (h2 : VO w w.heap.size (.simple L) q) (hs : sizeO o ≤ 1000) :
    Calls Tryd.prog 34 #[p, q] w (VPost (.ext o L) w) := by
  cases o with
  | simple K => exact makeExt_any _ L p q w h1 h2 hs (fun _ _ e => by cases e)
  | ext l K => exact makeExt_any _ L p q w h1 h2 hs (fun _ _ e => by cases e)
  | restr o K =>
    have hmm := @run_makeMap Tryd.prog
    have m1 := method_simple
    have m3 := method_restr
    have H1 := Lib.hid h1
    have H2 := Lib.hid h2
    obtain ⟨g1, n1, vl, rfl, hg1, hB1, ho1⟩ := h1
    obtain ⟨g2, n2, vr, rfl, hg2, hB2, ho2⟩ := h2
    obtain ⟨gr, br, nr, rfl, hgr, hbr, hBr, hFr⟩ := ho2
    have c1 := hB1.cell 2
    have c2 := hB2.cell 2
    simp only [List.getElem?_toArray, List.getElem?_cons_zero, List.getElem?_cons_succ] at c1 c2
    have HO1 := Lib.hid ho1
    have HO2 : Hid (SiO w w.heap.size L (.iface 102 (.pointer (some ⟨gr, 0, none⟩)))) := Lib.hid ⟨gr, br, nr, rfl, hgr, hbr, hBr, hFr⟩
    obtain ⟨gl, bl, nl, vol, rfl, hgl, hbl, hBl, ho3, hm3, hn3⟩ := ho1
    have HSS := Lib.hid hs
    have KS := Lib.hid (fun (w' : World) (hb : Below w.heap.size w w') => size_all (.restr o K) (.iface 97 (.pointer (some ⟨gl, 0, none⟩))) w.heap.size w' (OB.below hb (Nat.le_refl _) HO1.out) HSS.out)
    have e1 : IntKind.i64.wrap (((sizeO (.restr o K) : Nat) : Int) + 1) = ((sizeO (.restr o K) + 1 : Nat) : Int) := by
      rw [IntWalk.i64_in _ (by omega)]; omega
    have E1 := Lib.hid e1
    generalize hz : sizeO (.restr o K) = z at *
    have HZ := Lib.hid (show (z : Int) + 1 = ((sizeO (.restr o K) + 1 : Nat) : Int) by rw [hz]; omega)
    clear hB1 hB2 hBr hFr ho3 hm3 hBl hz hs
    go_enter Tryd.func34, Tryd.ntmps34
    go_wp2_with fail
    go_region_held3 (fun w' => Below w.heap.size w w' ∧ w'.cell? ⟨g1, 2, none⟩ = some (.iface 97 (.pointer (some ⟨gl, 0, none⟩))) ∧ w'.cell? ⟨g2, 2, none⟩ = some (.iface 102 (.pointer (some ⟨gr, 0, none⟩))))
      ((refine keep3 ?_ c1 c2; repeat (first | with_reducible exact Below.refl _ _ | with_reducible apply Below.drew | with_reducible apply belowS_alloc)))
      (first
        | (go_at_call 75; refine (size_simple _ _).mono ?_; rintro e9 w9 ⟨rfl, rfl⟩)
        | (go_at_call 73; refine (KS.out _ ?_).mono ?_; (repeat (first | with_reducible exact Below.refl _ _ | with_reducible apply Below.drew | with_reducible apply belowS_alloc)); rintro e9 w9 ⟨rfl, rfl⟩))
    all_goals
      go_wp2_with fail
      go_ret
      first
        | exact ext_leaf1 HO1.out HO2.out HZ.out
        | exact ext_leaf2 HO1.out HO2.out HZ.out
end Go.Proofs.YtkbjcpeogecbgaaDoor
