/-
  simple, makeValueSimpleObject, makeValueExtendedObject: objects made of steps. (After the text FsMake.)
-/
import Derived.Test.YtkbjcpeogecbgaaDoorFvObj
import Derived.Deep.RegionLaw
import Derived.IntWalk
namespace Go.Proofs.YtkbjcpeogecbgaaDoor
open Go.RowKit Go.Maps

def VPost (o : OT) (w : World) (e : Ending) (w' : World) : Prop := (∃ p, e = .returned p ∧ VO w' w'.heap.size o p) ∧ Below w.heap.size w w'
set_option maxRecDepth 100000 in
theorem makeSimple_any (b n : Nat) (L : AL) (w : World) (h : FMap w b n L) (hb : b < w.heap.size) (hn : n ≤ 12) : Calls Tryd.prog 38 #[.map none, .map (some b), .slice none 0 0, .slice none 0 0] w (VPost (.simple L) w) := by
  have hmm := @run_makeMap Tryd.prog
  have H := Lib.hid h
  clear h
  go_enter Tryd.func38, Tryd.ntmps38
  go_wp2
  go_ret
  have hb1 : Below w.heap.size w (((w.alloc (.map #[] 0)).alloc (.cells #[.map none, .map (some b), .slice none 0 0, .slice none 0 0] 108)).alloc (.cells #[.nilIface, .map (some w.heap.size), .iface 102 (.pointer (some ⟨w.heap.size + 1, 0, none⟩))] 68)) := (((Below.refl _ _).alloc (Nat.le_refl _) _).alloc (by simp) _).alloc (by simp; omega) _
  refine ⟨⟨_, rfl, w.heap.size + 2, w.heap.size, .iface 102 (.pointer (some ⟨w.heap.size + 1, 0, none⟩)), rfl, by simp, ?_, w.heap.size + 1, b, n, rfl, by simp, by simp; omega, ?_, H.out.below hb1 hb, hn⟩, hb1⟩
  · have := Blk.new ((w.alloc (.map #[] 0)).alloc (.cells #[.map none, .map (some b), .slice none 0 0, .slice none 0 0] 108)) 68 #[.nilIface, .map (some w.heap.size), .iface 102 (.pointer (some ⟨w.heap.size + 1, 0, none⟩))]
    simpa using this
  · have := (Blk.new (w.alloc (.map #[] 0)) 108 #[.map none, .map (some b), .slice none 0 0, .slice none 0 0]).alloc (.cells #[.nilIface, .map (some w.heap.size), .iface 102 (.pointer (some ⟨w.heap.size + 1, 0, none⟩))] 68)
    simpa using this

def alK (ns : List ByteArray) (hs : List Int) (k : Nat) : AL := ((ns.zip hs).take k).reverse
def alOf (e : FE) : AL := (e.ns.zip e.hs).reverse
theorem alK_succ {ns : List ByteArray} {hs : List Int} {k : Nat} (h1 : k < ns.length) (h2 : k < hs.length) : alK ns hs (k + 1) = (ns[k], hs[k]) :: alK ns hs k := by
  unfold alK
  have h3 : k < (ns.zip hs).length := by simp; omega
  rw [List.take_succ_eq_append_getElem h3, List.reverse_append, List.getElem_zip]
  rfl
set_option maxRecDepth 100000 in
set_option maxHeartbeats 1600000 in
theorem simple_any (rm : ByteArray) (A A2 : Option Addr) (n c c2 : Nat) (ns : List ByteArray) (hs : List Int) (is : Bool) (B : Nat) (w : World) (h : Strs w B A n ns) (h2 : Ints w B A2 n hs) (hB : B ≤ w.heap.size) (hn : n ≤ 12) (hz : ∀ s ∈ ns, s.size ≤ maxLen) :
    Calls Tryd.prog 32 #[.agg #[.string rm, .slice A n c, .slice A2 n c2, .bool is]] w (VPost (.simple (ns.zip hs).reverse) w) := by
  have hmm := @run_makeMap Tryd.prog
  have H1 := Lib.hid h
  have H2 := Lib.hid h2
  have L1 := Lib.hid (Strs.len h)
  have L2 := Lib.hid (Ints.len h2)
  have HZ := Lib.hid hz
  clear h h2 hz
  have HBX := Lib.hid (Blk.new w 57 #[.string rm, .slice A n c, .slice A2 n c2, .bool is])
  have HB0 := Lib.hid (show Below w.heap.size w (w.alloc (.cells #[.string rm, .slice A n c, .slice A2 n c2, .bool is] 57)) from (Below.refl _ _).alloc (Nat.le_refl _) _)
  have hsz : (w.alloc (.cells #[.string rm, .slice A n c, .slice A2 n c2, .bool is] 57)).heap.size = w.heap.size + 1 := by simp
  go_enter Tryd.func32, Tryd.ntmps32
  go_wp2_with fail
  generalize w.alloc (.cells #[.string rm, .slice A n c, .slice A2 n c2, .bool is] 57) = W1 at *
  have HS1 := Lib.hid hsz
  go_loopw [10] (fun t wr => ∃ j : Nat, j ≤ n ∧ t = .int .i64 j ∧ Hid (Below (w.heap.size + 1) W1 wr) ∧ Hid (FMap wr (w.heap.size + 1) j (alK ns hs j))) (fun t _ => n - (intOf t).toNat)
  case atStart =>
    refine ⟨0, Nat.zero_le _, rfl, Lib.hid ((Below.refl _ _).alloc (by omega) _), Lib.hid ?_⟩
    rw [← HS1.out]
    exact FMap.made W1
  case round =>
    obtain ⟨j, hj, rfl, HB, HM⟩ := hrel
    have hbs := HB.out.size
    have hws : w.heap.size + 1 ≤ wr.heap.size := by omega
    by_cases hlt : j < n
    · obtain ⟨ad, rfl, hbk, hc0⟩ := H1.out.at_ hlt
      have hc := (HB.out.cell (p := ad.add j) (by rw [block_of_add]; omega)).trans ((HB0.out.cell (p := ad.add j) (by rw [block_of_add]; omega)).trans hc0)
      obtain ⟨ad2, rfl, hbk2, hc02⟩ := H2.out.at_ hlt
      have hc2 := (HB.out.cell (p := ad2.add j) (by rw [block_of_add]; omega)).trans ((HB0.out.cell (p := ad2.add j) (by rw [block_of_add]; omega)).trans hc02)
      have hj1 : j < ns.length := by rw [L1.out]; exact hlt
      have hj2 : j < hs.length := by rw [L2.out]; exact hlt
      have e1 : ns.getD j ByteArray.empty = ns[j] := by simp [hj1]
      have e2 : hs.getD j 0 = hs[j] := by simp [hj2]
      rw [e1] at hc
      rw [e2] at hc2
      have EA := Lib.hid (alK_succ hj1 hj2)
      have hsz2 := HZ.out _ (List.getElem_mem hj1)
      generalize ns[j] = s at *
      generalize hs[j] = x at *
      have q1 := (HB.out.cell (p := ⟨w.heap.size, 1, none⟩) (by show w.heap.size < _; omega)).trans (HBX.out.cell 1)
      have q2 := (HB.out.cell (p := ⟨w.heap.size, 2, none⟩) (by show w.heap.size < _; omega)).trans (HBX.out.cell 2)
      simp only [List.getElem?_toArray, List.getElem?_cons_zero, List.getElem?_cons_succ] at q1 q2
      obtain ⟨D, hD, hDh⟩ := HM.out
      have HD := Lib.hid hD
      have HDH := Lib.hid hDh
      clear hc0 hc02 e1 e2 hD hDh hsz
      go_wp2_with (at_mapUpdate; refine wpList_mapUpdate_own _ rfl _ _ _ 105 rfl _ _ lawK Tryd.underlying105 rdS (w.heap.size + 1) j D rfl HD.out (by unfold maxLen; omega) _ _ (keyL s) rfl rfl (key_of hsz2) (.lit (.int .i64 x)) [] rfl ?_; intro w2 hown2 hgrow2)
      have hb2 : Below (w.heap.size + 1) W1 w2 := HB.out.grown hgrow2 (by omega) (fun q hq => by cases hq; exact Nat.le_refl _)
      have hmap : FMap w2 (w.heap.size + 1) (j + 1) (alK ns hs (j + 1)) := by
        rw [EA.out]
        exact ⟨_, hown2, (HDH.out.put HD.out.isMap s x).cons⟩
      clear hgrow2 hown2
      go_roundw
      case rel => exact ⟨j + 1, by omega, by go_num, Lib.hid hb2, Lib.hid hmap⟩
      case measure => simp [intOf]; omega
    · obtain rfl : j = n := by omega
      have hal : alK ns hs j = (ns.zip hs).reverse := by
        unfold alK
        rw [List.take_of_length_le (by rw [List.length_zip, L1.out, L2.out]; omega)]
      have HM2 := HM.out
      rw [hal] at HM2
      have K := Lib.hid (makeSimple_any (w.heap.size + 1) j _ wr HM2 (by obtain ⟨D, hD, -⟩ := HM2; exact hD.lt) hn)
      clear hal HM2 hsz
      go_wp2_with fail
      refine K.out.mono ?_
      rintro e9 w9 ⟨⟨p, rfl, hv⟩, hb9⟩
      have HV := Lib.hid hv
      have HB9 := Lib.hid (HB0.out.trans ((HB.out.mono (by omega)).trans (hb9.mono (by omega))))
      obtain ⟨g9, m9, vl9, rfl, -⟩ := hv
      clear hb9
      go_wp2_with fail
      go_ret
      exact ⟨⟨_, rfl, HV.out⟩, HB9.out⟩

theorem belowS_alloc {a w' : World} (h : Below a.heap.size a w') (o : Obj) : Below a.heap.size a (w'.alloc o) := h.alloc h.size o
theorem keep3 {w w' : World} (hb : Below w.heap.size w w') {p1 p2 : Addr} {u1 u2 : Value} (c1 : w.cell? p1 = some u1) (c2 : w.cell? p2 = some u2) :
    Below w.heap.size w w' ∧ w'.cell? p1 = some u1 ∧ w'.cell? p2 = some u2 :=
  have k : ∀ {p : Addr} {u : Value}, w.cell? p = some u → w'.cell? p = some u := fun {p} {_} h => (hb.cell (World.block_lt_of_cell? w p h)).trans h
  ⟨hb, k c1, k c2⟩
theorem ext_leaf1 {w : World} {o : OT} {L : AL} {vl vr : Value} {s : Int} (h1 : OB w w.heap.size o vl) (h2 : SiO w w.heap.size L vr) (hs : s = ((sizeO o + 1 : Nat) : Int)) :
    VPost (.ext o L) w (.returned (.pointer (some ⟨w.heap.size + 1 + 1, 0, none⟩))) (((w.alloc (.map #[] 0)).alloc (.cells #[vl, vr, .int .i64 s] 101)).alloc (.cells #[.nilIface, .map (some w.heap.size), .iface 99 (.pointer (some ⟨w.heap.size + 1, 0, none⟩))] 68)).drew := by
  subst hs
  have hb : Below w.heap.size w (((w.alloc (.map #[] 0)).alloc (.cells #[vl, vr, .int .i64 ((sizeO o + 1 : Nat) : Int)] 101)).alloc (.cells #[.nilIface, .map (some w.heap.size), .iface 99 (.pointer (some ⟨w.heap.size + 1, 0, none⟩))] 68)) := belowS_alloc (belowS_alloc (belowS_alloc (Below.refl _ _) _) _) _
  refine ⟨⟨_, rfl, w.heap.size + 1 + 1, w.heap.size, .iface 99 (.pointer (some ⟨w.heap.size + 1, 0, none⟩)), rfl, ?_, ?_, w.heap.size + 1, vl, vr, rfl, ?_, ?_, OB.more hb.size (OB.below hb.drew (Nat.le_refl _) h1), SiO.more (SiO.below h2 hb.drew (Nat.le_refl _)) hb.size⟩, hb.drew⟩
  · show _ < (World.alloc _ _).heap.size
    simp
  · have := Blk.new ((w.alloc (.map #[] 0)).alloc (.cells #[vl, vr, .int .i64 ((sizeO o + 1 : Nat) : Int)] 101)) 68 #[.nilIface, .map (some w.heap.size), .iface 99 (.pointer (some ⟨w.heap.size + 1, 0, none⟩))]
    simpa using this.drew
  · show _ < (World.alloc _ _).heap.size
    simp <;> omega
  · have := (Blk.new (w.alloc (.map #[] 0)) 101 #[vl, vr, .int .i64 ((sizeO o + 1 : Nat) : Int)]).alloc (.cells #[.nilIface, .map (some w.heap.size), .iface 99 (.pointer (some ⟨w.heap.size + 1, 0, none⟩))] 68)
    simpa using this.drew
theorem ext_leaf2 {w : World} {o : OT} {L : AL} {vl vr : Value} {s : Int} (h1 : OB w w.heap.size o vl) (h2 : SiO w w.heap.size L vr) (hs : s = ((sizeO o + 1 : Nat) : Int)) :
    VPost (.ext o L) w (.returned (.pointer (some ⟨w.heap.size + 1 + 1, 0, none⟩))) (((w.alloc (.cells #[vl, vr, .int .i64 s] 101)).alloc (.map #[] 0)).alloc (.cells #[.nilIface, .map (some (w.heap.size + 1)), .iface 99 (.pointer (some ⟨w.heap.size, 0, none⟩))] 68)).drew := by
  subst hs
  have hb : Below w.heap.size w (((w.alloc (.cells #[vl, vr, .int .i64 ((sizeO o + 1 : Nat) : Int)] 101)).alloc (.map #[] 0)).alloc (.cells #[.nilIface, .map (some (w.heap.size + 1)), .iface 99 (.pointer (some ⟨w.heap.size, 0, none⟩))] 68)) := belowS_alloc (belowS_alloc (belowS_alloc (Below.refl _ _) _) _) _
  refine ⟨⟨_, rfl, w.heap.size + 1 + 1, w.heap.size + 1, .iface 99 (.pointer (some ⟨w.heap.size, 0, none⟩)), rfl, ?_, ?_, w.heap.size, vl, vr, rfl, ?_, ?_, OB.more hb.size (OB.below hb.drew (Nat.le_refl _) h1), SiO.more (SiO.below h2 hb.drew (Nat.le_refl _)) hb.size⟩, hb.drew⟩
  · show _ < (World.alloc _ _).heap.size
    simp
  · have := Blk.new ((w.alloc (.cells #[vl, vr, .int .i64 ((sizeO o + 1 : Nat) : Int)] 101)).alloc (.map #[] 0)) 68 #[.nilIface, .map (some (w.heap.size + 1)), .iface 99 (.pointer (some ⟨w.heap.size, 0, none⟩))]
    simpa using this.drew
  · show _ < (World.alloc _ _).heap.size
    simp <;> omega
  · exact (((Blk.new w 101 #[vl, vr, .int .i64 ((sizeO o + 1 : Nat) : Int)]).alloc _).alloc _).drew
set_option maxRecDepth 100000 in
set_option maxHeartbeats 1600000 in
theorem makeExt_any (o : OT) (L : AL) (p q : Value) (w : World) (h1 : VO w w.heap.size o p) (h2 : VO w w.heap.size (.simple L) q) (hs : sizeO o ≤ 1000) (hno : ∀ o' K, o ≠ .restr o' K) :
    Calls Tryd.prog 34 #[p, q] w (VPost (.ext o L) w) := by
  have hmm := @run_makeMap Tryd.prog
  have m1 := method_simple
  have m2 := method_ext
  have H1 := Lib.hid h1
  have H2 := Lib.hid h2
  obtain ⟨g1, n1, vl, rfl, hg1, hB1, ho1⟩ := h1
  obtain ⟨g2, n2, vr, rfl, hg2, hB2, ho2⟩ := h2
  obtain ⟨gr, br, nr, rfl, hgr, hbr, hBr, hFr⟩ := ho2
  have c1 := hB1.cell 2
  have c2 := hB2.cell 2
  simp only [List.getElem?_toArray, List.getElem?_cons_zero, List.getElem?_cons_succ] at c1 c2
  have HO1 := Lib.hid ho1
  have HO2 : Hid (SiO w w.heap.size L (.iface 102 (.pointer (some ⟨gr, 0, none⟩)))) := Lib.hid ⟨gr, br, nr, rfl, hgr, hbr, hBr, hFr⟩
  cases o with
  | restr o' K => exact absurd rfl (hno o' K)
  | simple K =>
    obtain ⟨gl, bl, nl, rfl, hgl, hbl, hBl, hFl⟩ := ho1
    clear hB1 hB2 hBr hFr hBl hFl hno
    go_enter Tryd.func34, Tryd.ntmps34
    go_wp2_with fail
    go_region_held3 (fun w' => Below w.heap.size w w' ∧ w'.cell? ⟨g1, 2, none⟩ = some (.iface 102 (.pointer (some ⟨gl, 0, none⟩))) ∧ w'.cell? ⟨g2, 2, none⟩ = some (.iface 102 (.pointer (some ⟨gr, 0, none⟩))))
      ((refine keep3 ?_ c1 c2; repeat (first | with_reducible exact Below.refl _ _ | with_reducible apply Below.drew | with_reducible apply belowS_alloc)))
      ((go_at_call 75; refine (size_simple _ _).mono ?_; rintro e9 w9 ⟨rfl, rfl⟩))
    all_goals
      go_wp2_with fail
      go_ret
      first
        | exact ext_leaf1 HO1.out HO2.out (by first | rfl | decide)
        | exact ext_leaf2 HO1.out HO2.out (by first | rfl | decide)
  | ext l K =>
    obtain ⟨gl, vl2, vr2, rfl, hgl, hBl, ho3, ho4⟩ := ho1
    have HBL := Lib.hid hBl
    clear hB1 hB2 hBr hFr hno ho3 ho4 hBl
    have hsz : ((sizeO l + 1 + 1 : Nat) : Int) = ((sizeO (.ext l K) + 1 : Nat) : Int) := rfl
    have HSZ := Lib.hid hsz
    have e1 : IntKind.i64.wrap (((sizeO l + 1 : Nat) : Int) + 1) = ((sizeO l + 1 + 1 : Nat) : Int) := by
      rw [IntWalk.i64_in _ (by simp only [sizeO] at hs; omega)]; omega
    have e2 : IntKind.i64.wrap ((sizeO l : Int) + 1 + 1) = ((sizeO l + 1 + 1 : Nat) : Int) := by
      rw [IntWalk.i64_in _ (by simp only [sizeO] at hs; omega)]; omega
    have E2 := Lib.hid e2
    clear hs hsz e1 e2
    go_enter Tryd.func34, Tryd.ntmps34
    go_wp2_with fail
    go_region_held3 (fun w' => Below w.heap.size w w' ∧ w'.cell? ⟨g1, 2, none⟩ = some (.iface 99 (.pointer (some ⟨gl, 0, none⟩))) ∧ w'.cell? ⟨g2, 2, none⟩ = some (.iface 102 (.pointer (some ⟨gr, 0, none⟩))))
      ((refine keep3 ?_ c1 c2; repeat (first | with_reducible exact Below.refl _ _ | with_reducible apply Below.drew | with_reducible apply belowS_alloc)))
      (first
        | (go_at_call 75; refine (size_simple _ _).mono ?_; rintro e9 w9 ⟨rfl, rfl⟩)
        | (go_at_call 74; refine (size_ext gl vl2 vr2 (.int .i64 ((sizeO l + 1 : Nat) : Int)) _ ?_).mono ?_; (first | exact HBL.out | exact HBL.out.alloc _ | exact (HBL.out.alloc _).drew); rintro e9 w9 ⟨rfl, rfl⟩))
    all_goals
      go_wp2_with fail
      go_ret
      first
        | exact ext_leaf1 HO1.out HO2.out E2.out
        | exact ext_leaf2 HO1.out HO2.out E2.out
end Go.Proofs.YtkbjcpeogecbgaaDoor
