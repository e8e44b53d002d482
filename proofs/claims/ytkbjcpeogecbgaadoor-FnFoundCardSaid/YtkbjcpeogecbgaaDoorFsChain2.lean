/-
  chain: the object that steps make, none of which takes a field out.
-/
import Derived.Test.YtkbjcpeogecbgaaDoorFsMake
namespace Go.Proofs.YtkbjcpeogecbgaaDoor
open Go.RowKit Go.Maps

def noRestr : OT → Prop
  | .simple _ => True
  | .ext l _ => noRestr l
  | .restr _ _ => False
theorem noRestr_ne {o : OT} (h : noRestr o) : ∀ o' K, o ≠ .restr o' K := by
  rintro o' K rfl
  exact h
/-- The object that the first k steps make. -/
def objOf (js : List FE) : Nat → OT
  | 0 => .simple []
  | 1 => .simple (alOf (js.getD 0 ⟨false, ByteArray.empty, none, 0, 0, [], none, 0, 0, []⟩))
  | k + 2 => .ext (objOf js (k + 1)) (alOf (js.getD (k + 1) ⟨false, ByteArray.empty, none, 0, 0, [], none, 0, 0, []⟩))
theorem objOf_no (js : List FE) : ∀ k, noRestr (objOf js k)
  | 0 => trivial
  | 1 => trivial
  | k + 2 => objOf_no js (k + 1)
theorem objOf_size (js : List FE) : ∀ k, sizeO (objOf js k) ≤ k + 1
  | 0 => by simp [objOf, sizeO]
  | 1 => by simp [objOf, sizeO]
  | k + 2 => by
    have := objOf_size js (k + 1)
    simp only [objOf, sizeO]
    omega
def OkJ (j : FE) : Prop := j.is = false ∧ j.n = j.n2 ∧ j.n ≤ 12 ∧ ∀ s ∈ j.ns, s.size ≤ maxLen

set_option maxRecDepth 100000 in
set_option maxHeartbeats 3200000 in
theorem chainO_any (A : Option Addr) (n c : Nat) (js : List FE) (w : World) (h : JSteps w w.heap.size A n js) (hn : n ≤ 12) (hok : ∀ j ∈ js, OkJ j) :
    Calls Tryd.prog 25 #[.slice A n c] w (VPost (objOf js n) w) := by
  have HH := Lib.hid h
  have HL := Lib.hid h.1
  have HO := Lib.hid hok
  clear h hok
  have K0 := Lib.hid (simple_any ByteArray.empty none none 0 0 0 [] [] false w.heap.size w Reads.none_ Reads.none_ (Nat.le_refl _) (by omega) (fun s hs => by cases hs))
  go_enter Tryd.func25, Tryd.ntmps25
  go_wp2_with fail
  refine K0.out.mono ?_
  rintro e1 w1 ⟨⟨p1, rfl, hv1⟩, hb1⟩
  have HB1 := Lib.hid hb1
  have HV1 := Lib.hid hv1
  clear hb1 hv1 K0
  go_wp2_with fail
  go_loopw [3, 11] (fun u t wr => ∃ k : Nat, k ≤ n ∧ t = .int .i64 k ∧ Hid (Below w.heap.size w wr) ∧ Hid (VO wr wr.heap.size (objOf js k) u)) (fun _ t _ => n - (intOf t).toNat)
  case atStart => exact ⟨0, Nat.zero_le _, rfl, HB1, HV1⟩
  case round =>
    obtain ⟨k, hk, rfl, HB, HV⟩ := hrel
    have hws : w.heap.size ≤ wr.heap.size := HB.out.size
    by_cases hlt : k < n
    · obtain ⟨b, o, e, rfl, hbb', hek, hstr, hints, c0, c1, c2, c3⟩ := (HH.out.below HB.out (Nat.le_refl _)).at_ hlt
      have hoe := HO.out e (List.mem_of_getElem? hek)
      have hgd : js.getD k ⟨false, ByteArray.empty, none, 0, 0, [], none, 0, 0, []⟩ = e := by simp [hek]
      obtain ⟨is, rm, A1, n1, c1', ns, A2, n2, c2', hs⟩ := e
      obtain ⟨q1, q2, q3, q4⟩ := hoe
      simp only at q1 q2 q3 q4 c0 c1 c2 c3 hstr hints
      subst q1 q2
      have HG := Lib.hid hgd
      have HST := Lib.hid hstr
      have HIN := Lib.hid hints
      have HQ := Lib.hid q4
      clear hek hgd hstr hints q4
      have HX := Lib.hid (show Below wr.heap.size wr (wr.alloc (.cells #[.string rm, .slice A1 n1 c1', .slice A2 n1 c2', .bool false] 57)) from belowS_alloc (Below.refl _ _) _)
      have KS := Lib.hid (fun (w' : World) (hb : Below wr.heap.size wr w') => simple_any rm A1 A2 n1 c1' c2' ns hs false w.heap.size w' (Reads.below HST.out (hb.mono hws)) (Reads.below HIN.out (hb.mono hws)) (Nat.le_trans hws hb.size) q3 HQ.out)
      rcases k with _ | k
      · simp only [Nat.zero_mul, Nat.add_zero] at c0 c1 c2 c3
        go_wp2_with fail
        refine (KS.out _ HX.out).mono ?_
        rintro e2 w2 ⟨⟨p2, rfl, hv2⟩, hb2⟩
        have HB2 := Lib.hid (HB.out.trans ((HX.out.trans (hb2.mono HX.out.size)).mono hws))
        have HV2 : Hid (VO w2 w2.heap.size (objOf js (0 + 1)) p2) := Lib.hid (by
          show VO w2 w2.heap.size (.simple (alOf _)) p2
          rw [HG.out]
          exact hv2)
        clear hb2 hv2
        go_wp2_with fail
        go_roundw
        case rel => exact ⟨0 + 1, by omega, by go_num, HB2, HV2⟩
        case measure => simp [intOf]; omega
      · have e1 : (((k + 1 : Nat) : Int) == 0) = false := by simp; omega
        have e2 : ((k : Int) + 1 == 0) = false := by simp; omega
        go_wp2_with fail
        refine (KS.out _ HX.out).mono ?_
        rintro e3 w2 ⟨⟨p2, rfl, hv2⟩, hb2⟩
        have HB2 := Lib.hid (HX.out.trans (hb2.mono HX.out.size))
        have HV2 := Lib.hid hv2
        have HV1' : Hid (VO w2 w2.heap.size (objOf js (k + 1)) u3) := Lib.hid ((HV.out.below HB2.out (Nat.le_refl _)).more HB2.out.size)
        have hp := hv2
        obtain ⟨gp, mp, vp, rfl, -⟩ := hp
        clear hb2 hv2
        go_wp2_with fail
        refine (makeExt_any (objOf js (k + 1)) _ u3 _ w2 HV1'.out HV2.out (by have := objOf_size js (k + 1); omega) (noRestr_ne (objOf_no js (k + 1)))).mono ?_
        rintro e4 w4 ⟨⟨p4, rfl, hv4⟩, hb4⟩
        have HB4 := Lib.hid (HB.out.trans ((HB2.out.mono hws).trans (hb4.mono (Nat.le_trans hws HB2.out.size))))
        have HV4 : Hid (VO w4 w4.heap.size (objOf js (k + 1 + 1)) p4) := Lib.hid (by
          show VO w4 w4.heap.size (.ext (objOf js (k + 1)) (alOf _)) p4
          rw [HG.out]
          exact hv4)
        clear hb4 hv4
        go_wp2_with fail
        go_roundw
        case rel => exact ⟨k + 1 + 1, by omega, by go_num, HB4, HV4⟩
        case measure => simp [intOf]; omega
    · obtain rfl : k = n := by omega
      have hp := HV.out
      obtain ⟨gp, mp, vp, rfl, -⟩ := hp
      go_wp2_with fail
      go_ret
      exact ⟨⟨_, rfl, HV.out⟩, HB.out⟩
end Go.Proofs.YtkbjcpeogecbgaaDoor
