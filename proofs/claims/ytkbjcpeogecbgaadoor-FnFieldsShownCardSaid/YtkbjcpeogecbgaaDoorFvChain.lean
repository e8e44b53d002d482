/-
  chain: the object that steps make; a step may take a field out.
-/
import Derived.Test.YtkbjcpeogecbgaaDoorFvRestr
import Derived.Deep.RegionHeld3
namespace Go.Proofs.YtkbjcpeogecbgaaDoor
open Go.RowKit Go.Maps

theorem step_delete {H : Type} {P : Program} {w : World} {ops : Array Oper} {o : Oper} {a : Act} {K : Act → World → Prop} {Q : Exit → Act → World → Prop} {E : Prop} (hg : o.guard = none) (m x : Operand) (t k : TypeId)
    (hop : o.op = Op.call { callee := Callee.builtin Builtin.delete, args := #[m, x], argTypes := #[t, k] })
    (e : TypeId) (KK : Keyed P k) (ht : P.underlying t = some (.map k e)) (R : Value → Option (DataW H × List MemPlace)) (b n : Nat) (D : DataW H)
    (hm : a.eval m = .map (some b)) (hown : w.ownsMap P k R b n D) (key : Value) (kl : Lit) (hx : a.eval x = key) (hkey : keyOf P k key = some kl)
    (hK : ∀ w', w'.ownsMap P k R b n (D.del kl) → w.grownBy w' (some b) → K (a.put o.dst (.tuple #[])) w') :
    if Region.wanted o (yielded ops a.tmps) = true then Oper.wp P o a w K Q else E := by
  have hw : Region.wanted o (yielded ops a.tmps) = true := by simp [Region.wanted, hg]
  rw [if_pos hw]
  obtain ⟨w', hrun, r1, r2⟩ := hown.drop KK ht hkey o.type
  unfold Oper.wp
  simp [execOp, hop, resolve, invoke, builtin, hm, hx, hrun, Result.andThen]
  exact hK w' r1 r2.grown
theorem HMap.more {w : World} {b n n' : Nat} {V : ByteArray → Option Int} (h : HMap w b n V) (hn : n = n') : HMap w b n' V := hn ▸ h
theorem assert_restr_rf (a : Addr) (w : World) : (Instr.typeAssert (.iface 97 (.pointer (some a))) 66 97 false).run Tryd.prog w = .ok (.pointer (some a)) w := by kernel_rfl
theorem grown_drew {w w' : World} {r : Option Nat} (h : w.drew.grownBy w' r) : w.grownBy w' r := ⟨h.os, h.tape, h.output, h.size, h.block⟩
theorem map_ne {w : World} {b n : Nat} {D : DataW Unit} (h : w.ownsMap Tryd.prog 9 rdI b n D) {q : Nat} {t : TypeId} {cs : Array Value} (hq : Blk w q t cs) : some q ≠ some b := fun e => by
  obtain ⟨es, c, hes, -⟩ := h
  injection e with e
  subst e
  unfold Blk at hq
  rw [hes] at hq
  cases hq
/-- A field is taken out of a restricted object. -/
theorem restr_del {w w2 w5 : World} {o : OT} {C g m gr b n : Nat} {vo : Value} {D : DataW Unit} {s : ByteArray}
    (hg : Blk w2 g 68 #[.nilIface, .map (some m), .iface 97 (.pointer (some ⟨gr, 0, none⟩))]) (hr : Blk w2 gr 96 #[vo, .map (some b)])
    (ho : OB w2 C o vo) (hD : HoldsF D (visO o)) (hn : n ≤ 12 * sizeO o) (hb : C ≤ b) (h2 : w2.ownsMap Tryd.prog 9 rdI b n D) (h5 : w5.ownsMap Tryd.prog 9 rdI b n (D.del (keyL s))) (hg5 : w2.grownBy w5 (some b)) (hC : C ≤ w2.heap.size)
    (hB : Below w.heap.size w w2) (hCw : w.heap.size ≤ C) :
    VO w5 w5.heap.size (.restr o (delF (visO o) s)) (.pointer (some ⟨g, 0, none⟩)) ∧ Below w.heap.size w w5 := by
  have hBl : Below C w2 w5 := (Below.refl C w2).grown hg5 hC (fun k hk => by cases hk; exact hb)
  have hsz := hg5.size
  refine ⟨⟨g, m, _, rfl, Nat.lt_of_lt_of_le hg.lt hsz, hg.grown hg5 (map_ne h2 hg), gr, b, n, vo, rfl, Nat.lt_of_lt_of_le hr.lt hsz, h5.lt, hr.grown hg5 (map_ne h2 hr), (OB.below hBl (Nat.le_refl _) ho).more (by omega), ⟨_, h5, hD.del s⟩, hn⟩, ?_⟩
  exact hB.grown hg5 (by omega) (fun k hk => by cases hk; omega)
set_option maxRecDepth 100000 in
set_option maxHeartbeats 3200000 in
theorem chainR_any (A : Option Addr) (n c : Nat) (js : List FE) (w : World) (h : JSteps w w.heap.size A n js) (hn : n ≤ 12) (hok : ∀ j ∈ js, OkR j) :
    Calls Tryd.prog 25 #[.slice A n c] w (VPost (objK (js.map stJ) n) w) := by
  have HH := Lib.hid h
  have HL := Lib.hid h.1
  have HO := Lib.hid hok
  clear h hok
  have K0 := Lib.hid (simple_any ByteArray.empty none none 0 0 0 [] [] false w.heap.size w Reads.none_ Reads.none_ (Nat.le_refl _) (by omega) (fun s hs => by cases hs))
  go_enter Tryd.func25, Tryd.ntmps25
  go_wp2_with fail
  refine K0.out.mono ?_
  rintro e1 w1 ⟨⟨p1, rfl, hv1⟩, hb1⟩
  have HB1 := Lib.hid hb1
  have HV1 := Lib.hid hv1
  clear hb1 hv1 K0
  go_wp2_with fail
  go_loopw [3, 11] (fun u t wr => ∃ k : Nat, k ≤ n ∧ t = .int .i64 k ∧ Hid (Below w.heap.size w wr) ∧ Hid (VO wr wr.heap.size (objK (js.map stJ) k) u)) (fun _ t _ => n - (intOf t).toNat)
  case atStart => exact ⟨0, Nat.zero_le _, rfl, HB1, HV1⟩
  case round =>
    obtain ⟨k, hk, rfl, HB, HV⟩ := hrel
    have hws : w.heap.size ≤ wr.heap.size := HB.out.size
    by_cases hlt : k < n
    · obtain ⟨b, o, e, rfl, hbb', hek, hstr, hints, c0, c1, c2, c3⟩ := (HH.out.below HB.out (Nat.le_refl _)).at_ hlt
      have hoe := HO.out e (List.mem_of_getElem? hek)
      have hgd : (js.map stJ).getD k (false, ByteArray.empty, []) = stJ e := by simp [hek]
      obtain ⟨is, rm, A1, n1, c1', ns, A2, n2, c2', hs⟩ := e
      obtain ⟨q2, q3, q4, q5⟩ := hoe
      simp only at q2 q3 q4 q5 c0 c1 c2 c3 hstr hints
      subst q2
      have HG := Lib.hid hgd
      have HST := Lib.hid hstr
      have HIN := Lib.hid hints
      have HQ := Lib.hid q4
      have HQ5 := Lib.hid q5
      clear hek hgd hstr hints q4 q5
      have HX := Lib.hid (show Below wr.heap.size wr (wr.alloc (.cells #[.string rm, .slice A1 n1 c1', .slice A2 n1 c2', .bool is] 57)) from belowS_alloc (Below.refl _ _) _)
      have KS := Lib.hid (fun (w' : World) (hb : Below wr.heap.size wr w') => simple_any rm A1 A2 n1 c1' c2' ns hs is w.heap.size w' (Reads.below HST.out (hb.mono hws)) (Reads.below HIN.out (hb.mono hws)) (Nat.le_trans hws hb.size) q3 HQ.out)
      cases is
      · rcases k with _ | k
        · simp only [Nat.zero_mul, Nat.add_zero] at c0 c1 c2 c3
          go_wp2_with fail
          refine (KS.out _ HX.out).mono ?_
          rintro e2 w2 ⟨⟨p2, rfl, hv2⟩, hb2⟩
          have HB2 := Lib.hid (HB.out.trans ((HX.out.trans (hb2.mono HX.out.size)).mono hws))
          have HV2 : Hid (VO w2 w2.heap.size (objK (js.map stJ) (0 + 1)) p2) := Lib.hid (by
            rw [objK_succ, HG.out]
            exact hv2)
          clear hb2 hv2
          go_wp2_with fail
          go_roundw
          case rel => exact ⟨0 + 1, by omega, by go_num, HB2, HV2⟩
          case measure => simp [intOf]; omega
        · have e1 : (((k + 1 : Nat) : Int) == 0) = false := by simp; omega
          have e2 : ((k : Int) + 1 == 0) = false := by simp; omega
          go_wp2_with fail
          refine (KS.out _ HX.out).mono ?_
          rintro e3 w2 ⟨⟨p2, rfl, hv2⟩, hb2⟩
          have HB2 := Lib.hid (HX.out.trans (hb2.mono HX.out.size))
          have HV2 := Lib.hid hv2
          have HV1' : Hid (VO w2 w2.heap.size (objK (js.map stJ) (k + 1)) u3) := Lib.hid ((HV.out.below HB2.out (Nat.le_refl _)).more HB2.out.size)
          have hp := hv2
          obtain ⟨gp, mp, vp, rfl, -⟩ := hp
          clear hb2 hv2
          go_wp2_with fail
          refine (makeExtR_any (objK (js.map stJ) (k + 1)) _ u3 _ w2 HV1'.out HV2.out (by have := objK_size (js.map stJ) (k + 1); omega)).mono ?_
          rintro e4 w4 ⟨⟨p4, rfl, hv4⟩, hb4⟩
          have HB4 := Lib.hid (HB.out.trans ((HB2.out.mono hws).trans (hb4.mono (Nat.le_trans hws HB2.out.size))))
          have HV4 : Hid (VO w4 w4.heap.size (objK (js.map stJ) (k + 1 + 1)) p4) := Lib.hid (by
            rw [objK_succ, HG.out]
            exact hv4)
          clear hb4 hv4
          go_wp2_with fail
          go_roundw
          case rel => exact ⟨k + 1 + 1, by omega, by go_num, HB4, HV4⟩
          case measure => simp [intOf]; omega
      · have HV1' : Hid (VO (wr.alloc (.cells #[.string rm, .slice A1 n1 c1', .slice A2 n1 c2', .bool true] 57)) (wr.alloc (.cells #[.string rm, .slice A1 n1 c1', .slice A2 n1 c2', .bool true] 57)).heap.size (objK (js.map stJ) k) u3) := Lib.hid ((HV.out.below HX.out (Nat.le_refl _)).more HX.out.size)
        have hp := HV.out
        obtain ⟨gp, mp, vp, rfl, -⟩ := hp
        have HCS := Lib.hid (Blk.new wr 57 #[.string rm, .slice A1 n1 c1', .slice A2 n1 c2', .bool true])
        go_wp2_with fail
        refine (makeRestr_any (objK (js.map stJ) k) _ _ HV1'.out (by have := objK_size (js.map stJ) k; omega)).mono ?_
        rintro e3 w2 ⟨⟨g, m, gr, bm, nm, vo, rfl, hbg, hbr, hob, hm, hnm, hbm, hgm, hgrm⟩, hb2⟩
        have q1 := hbg.cell 2
        have q2 := hbr.cell 1
        have q3' := (HCS.out.below hb2 HCS.out.lt).cell 0
        simp only [List.getElem?_toArray, List.getElem?_cons_zero, List.getElem?_cons_succ] at q1 q2 q3'
        obtain ⟨D, hown, hDh⟩ := hm
        have HCX := Lib.hid (HCS.out.below hb2 HCS.out.lt)
        have NE1 := Lib.hid (map_ne hown hbg)
        have NE2 := Lib.hid (map_ne hown hbr)
        have NE3 := Lib.hid (map_ne hown (HCS.out.below hb2 HCS.out.lt))
        have HOW := Lib.hid hown
        have HDH := Lib.hid hDh
        have HOB := Lib.hid hob
        have HBG := Lib.hid hbg
        have HBR := Lib.hid hbr
        have HB2 := Lib.hid hb2
        have HNM := Lib.hid hnm
        have HBM := Lib.hid hbm
        have ta := assert_restr_rf ⟨gr, 0, none⟩
        clear hbg hbr hob hnm hbm hgm hgrm hb2 hown hDh
        go_wp2_with fail
        go_region_held3 (fun w' => w'.cell? ⟨g, 2, none⟩ = some (.iface 97 (.pointer (some ⟨gr, 0, none⟩))) ∧ w'.cell? ⟨gr, 1, none⟩ = some (.map (some bm)) ∧ w'.cell? ⟨wr.heap.size, 0, none⟩ = some (.string rm))
          (first
            | exact ⟨q1, q2, q3'⟩
            | exact ⟨(HBG.out.drew.grown hg5 NE1.out).cell 2, (HBR.out.drew.grown hg5 NE2.out).cell 1, ((HCX.out.drew).grown hg5 NE3.out).cell 0⟩)
          ((refine step_delete rfl (.tmp 32) (.tmp 34) 85 9 rfl 53 lawK Tryd.underlying85 rdI bm nm D rfl HOW.out _ (keyL rm) rfl (key_of HQ5.out) ?_; intro w5 hown5 hg5))
        have hsX := HX.out.size
        have hR := restr_del (w := w) HBG.out HBR.out HOB.out HDH.out HNM.out HBM.out HOW.out hown5 (grown_drew hg5) HB2.out.size (HB.out.trans ((HX.out.trans (HB2.out.mono hsX)).mono hws)) (Nat.le_trans hws hsX)
        have HV4 : Hid (VO w5 w5.heap.size (objK (js.map stJ) (k + 1)) (.pointer (some ⟨g, 0, none⟩))) := Lib.hid (by
          rw [objK_succ, HG.out]
          exact hR.1)
        have HB4 := Lib.hid hR.2
        clear hR hg5 hown5
        go_wp2_with fail
        go_roundw
        case rel => exact ⟨k + 1, by omega, by go_num, HB4, HV4⟩
        case measure => simp [intOf]; omega
    · obtain rfl : k = n := by omega
      have hp := HV.out
      obtain ⟨gp, mp, vp, rfl, -⟩ := hp
      go_wp2_with fail
      go_ret
      exact ⟨⟨_, rfl, HV.out⟩, HB.out⟩
end Go.Proofs.YtkbjcpeogecbgaaDoor
