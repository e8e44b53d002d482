/-
  PartVisibility, PartFields: how the fields of the object that steps make are seen, and their names.
-/
import Derived.Test.YtkbjcpeogecbgaaDoorFvChain
import Derived.Test.YtkbjcpeogecbgaaDoorFvNames
namespace Go.Proofs.YtkbjcpeogecbgaaDoor
open Go.RowKit Go.Maps

theorem withHidden_any (b : Bool) (w : World) : Calls Tryd.prog 28 #[.bool b] w fun e w' => (∃ hI : Int, e = .returned (.int .i64 hI) ∧ (hI == 0) = b) ∧ w = w' := by
  cases b
  all_goals
    go_enter Tryd.func28, Tryd.ntmps28
    go_wp2
    go_ret
    exact ⟨⟨_, rfl, by decide⟩, rfl⟩
theorem JSteps.go {w w' : World} {A : Option Addr} {n : Nat} {js : List FE} (h : JSteps w w.heap.size A n js) (hb : Below w.heap.size w w') : JSteps w' w'.heap.size A n js := (h.below hb (Nat.le_refl _)).more hb.size
set_option maxRecDepth 100000 in
set_option maxHeartbeats 1600000 in
theorem PartFields_any (A : Option Addr) (n c : Nat) (js : List FE) (hid : Bool) (w : World) (h : JSteps w w.heap.size A n js) (hn : n ≤ 12) (hok : ∀ j ∈ js, OkR j) :
    Calls Tryd.prog 18 #[.slice A n c, .bool hid] w (OfPost (objK (js.map stJ) n) (pF hid) w) := by
  have K1 := Lib.hid (chainR_any A n c js w h hn hok)
  have HSZ := Lib.hid (objK_size (js.map stJ) n)
  clear h hok
  generalize objK (js.map stJ) n = o at *
  go_enter Tryd.func18, Tryd.ntmps18
  go_wp2_with fail
  refine K1.out.mono ?_
  rintro e1 w1 ⟨⟨p1, rfl, hv1⟩, hb1⟩
  have HV1 := Lib.hid hv1
  have HB1 := Lib.hid hb1
  clear hv1 hb1 K1
  go_wp2_with fail
  refine (withHidden_any hid w1).mono ?_
  rintro e2 w2 ⟨⟨hI, rfl, hq⟩, rfl⟩
  have K2 := Lib.hid (objFields_any o p1 hid hI hq w1 HV1.out (by have := HSZ.out; omega))
  clear hq
  go_wp2_with fail
  refine K2.out.mono ?_
  rintro e3 w3 ⟨⟨v, ss, rfl, h1, h2, h3, h4⟩, hb3⟩
  have H1 := Lib.hid h1
  have H2 := Lib.hid h2
  have H4 := Lib.hid h4
  clear h1 h2 h4 K2
  obtain ⟨A3, c3, rfl⟩ := own_form H1.out
  go_wp2_with fail
  go_ret
  exact ⟨⟨_, ss, rfl, own_base H1.out HB1.out.size, H2.out, h3, H4.out⟩, HB1.out.trans (hb3.mono HB1.out.size)⟩
set_option maxRecDepth 100000 in
set_option maxHeartbeats 3200000 in
theorem PartVis_any (A : Option Addr) (n c : Nat) (js : List FE) (w : World) (h : JSteps w w.heap.size A n js) (hn : n ≤ 12) (hok : ∀ j ∈ js, OkR j) :
    Calls Tryd.prog 20 #[.slice A n c] w (ViPost (objK (js.map stJ) n) w) := by
  have hmm := @run_makeMap Tryd.prog
  have HB0 := Lib.hid (show Below w.heap.size w (w.alloc (.map #[] 0)) from belowS_alloc (Below.refl _ _) _)
  have K1 := Lib.hid (chainR_any A n c js (w.alloc (.map #[] 0)) (h.go HB0.out) hn hok)
  have HSZ := Lib.hid (objK_size (js.map stJ) n)
  have HM := Lib.hid (HMap.made w)
  have hsz0 : (w.alloc (.map #[] 0)).heap.size = w.heap.size + 1 := by simp
  clear h hok
  generalize objK (js.map stJ) n = o at *
  go_enter Tryd.func20, Tryd.ntmps20
  go_wp2_with fail
  refine K1.out.mono ?_
  rintro e1 w1 ⟨⟨p1, rfl, hv1⟩, hb1⟩
  have hso : sizeO o ≤ 1000 := by have := HSZ.out; omega
  have K2 := Lib.hid (objVis_any o p1 w1 hv1 hso)
  have HM1 := Lib.hid (HM.out.below hb1 (by omega))
  have HB1 := Lib.hid (HB0.out.trans (hb1.mono HB0.out.size))
  clear hv1 K1
  have hz1 : w.heap.size + 1 ≤ w1.heap.size := by have := hb1.size; omega
  clear hb1 hsz0
  go_wp2_with fail
  refine K2.out.mono ?_
  rintro e2 w2 ⟨⟨bF, nF, rfl, hbF, ⟨D, hown, hD⟩, hnF⟩, hb2⟩
  have HD := Lib.hid hD
  have HO := Lib.hid hown
  have HSL := Lib.hid hown.size_le
  have HM2 := Lib.hid (HM1.out.below hb2 (by omega))
  have HB2 := Lib.hid (HB1.out.trans (hb2.mono HB1.out.size))
  have hz2 : w.heap.size + 1 ≤ w2.heap.size := by have := hb2.size; omega
  have hbFl : w.heap.size + 1 ≤ bF := by omega
  have hbFu : bF < w2.heap.size := hown.lt
  clear hb2 hown hD K2 HM HM1
  go_wp2_with (at_range; refine wpList_range_own _ rfl _ 85 rfl 9 53 lawK Tryd.underlying85 rdI bF nF D rfl HO.out ?_; intro w0 hrg0 hg0 hs0)
  go_frame
  have HB3 := Lib.hid (HB2.out.grown hg0 (by omega) (fun k hk => by cases hk))
  have HV0 := Lib.hid (show ViI rdI (fun _ => none) (visO o) bF w2.heap.size nF D w.heap.size (12 * sizeO o) w w0 from
    ⟨_, _, 0, hrg0, (HM2.out.kept hg0 (by simp)).same (tF_start HD.out (fun s hs => hs)), by have := HSL.out; omega, HB3.out⟩)
  clear hrg0 hg0 HM2 HO
  go_loopw [11] (fun _ wr => Hid (ViI rdI (fun _ => none) (visO o) bF w2.heap.size nF D w.heap.size (12 * sizeO o) w wr)) (fun _ wr => wr.rangeLeft bF w2.heap.size)
  case atStart => exact HV0
  case round =>
    have HI : Hid (ViI rdI (fun _ => none) (visO o) bF w2.heap.size nF D w.heap.size (12 * sizeO o) w wr) := hrel
    clear hrel HV0
    obtain ⟨left, cnt, n, hrg, hmap, hnm, hbw⟩ := HI.out
    have HRG := Lib.hid hrg
    have HMP := Lib.hid hmap
    have HBW := Lib.hid hbw
    clear hrg hmap hbw HI
    go_wp2_with (at_next; refine wpList_next_ranges _ rfl _ rfl 9 lawK rdI Value.string (fun x : Int => .int .i64 x) (fun key kl hk => by obtain ⟨s, h1, -, -⟩ := keyS_inv hk; exact ⟨s, h1⟩) (fun v y hv => by obtain ⟨x, h1, -⟩ := rdI_cases hv; exact ⟨x, h1⟩) bF w2.heap.size nF D left cnt rfl HRG.out ?_ ?_)
    · intro _ hl0
      have HM2 := Lib.hid (HMP.out.same (tF_end hl0))
      clear hl0
      go_wp2_with fail
      go_ret
      exact ⟨⟨_, n, rfl, Nat.le_refl _, HM2.out, by omega⟩, HBW.out⟩
    · intro x c kl y1 y2 w1 cnt1 hkey hlk hv hat hrg1 hlt hg1 hs1 hen
      obtain ⟨x', hx', rfl, hxs⟩ := keyS_inv hkey
      obtain rfl : x = x' := by injection hx'
      have hy : y1 = .lit (.int .i64 c) := by
        have h5 : rdI (Value.int .i64 c) = some (.lit (.int .i64 c), []) := rfl
        rw [h5] at hv
        injection hv with hv
        injection hv with hv _
        exact hv.symm
      subst hy
      have hu := HD.out.of_at hat
      have hws : w.heap.size ≤ wr.heap.size := HBW.out.size
      obtain ⟨D2, hown1, hh2⟩ := HMP.out.kept hg1 (by simp; omega)
      have HH2 := Lib.hid hh2
      have HO1 := Lib.hid (hown1)
      have hbw1 := HBW.out.grown hg1 hws (fun k hk => by cases hk; omega)
      have HBW1 := Lib.hid (hbw1)
      have HRG1 := Lib.hid (hrg1)
      have HU := Lib.hid hu
      have hz : w.heap.size ≤ w1.heap.size := hbw1.size
      clear hkey hlk hv hat hrg1 hg1 hs1 hh2 hown1 hbw1 hx' hu
      go_wp2_with (at_mapUpdate; refine wpList_mapUpdate_own _ rfl _ _ _ 50 rfl _ _ lawK Tryd.underlying50 rdI w.heap.size n D2 rfl HO1.out (by unfold maxLen; omega) _ _ (keyL x) rfl rfl (key_of hxs) (.lit (.int .i64 c)) [] rfl ?_; intro w3 hown2 hgrow2)
      have hrg2 := HRG1.out.kept hgrow2 (by simp; omega) (by simp; omega)
      have HN := Lib.hid (show ViI rdI (fun _ => none) (visO o) bF w2.heap.size nF D w.heap.size (12 * sizeO o) w w3 from
        ⟨_, _, n + 1, hrg2, HMap.same ⟨_, hown2, HH2.out.put HO1.out.isMap x c⟩ (tF_put HU.out), by omega, HBW1.out.grown hgrow2 hz (fun k hk => by cases hk; exact Nat.le_refl _)⟩)
      have HME := Lib.hid (show w3.rangeLeft bF w2.heap.size < wr.rangeLeft bF w2.heap.size by rw [hrg2.left_eq, HRG.out.left_eq]; exact hlt)
      clear hown2 hgrow2 hrg2
      go_frame
      go_roundw
      case rel => exact HN
      case measure => exact HME.out
end Go.Proofs.YtkbjcpeogecbgaaDoor
