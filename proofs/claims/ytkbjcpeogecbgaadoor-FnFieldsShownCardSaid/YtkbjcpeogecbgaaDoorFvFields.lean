/-
  impl.Fields: the names of the fields, sorted.
-/
import Derived.Test.YtkbjcpeogecbgaaDoorFvPart
import Derived.Test.YtkbjcpeogecbgaaDoorFvSort
namespace Go.Proofs.YtkbjcpeogecbgaaDoor
open Go.RowKit Go.Maps

def stE (e : FE) : St := (e.is, e.rm, (e.ns.zip (e.hs.map hideOf)).reverse)
theorem stJ_stE {e j : FE} (h : toJ e j) : stJ j = stE e := by
  obtain ⟨h1, h2, h3, h4, h5, h6, h7, h8⟩ := h
  unfold stJ stE alOf
  rw [h1, h2, h6, h8]
theorem sts_eq {es js : List FE} (hl : es.length = js.length) (h : ∀ (i : Nat) (e j : FE), es[i]? = some e → js[i]? = some j → toJ e j) : js.map stJ = es.map stE := by
  apply List.ext_getElem (by simp [hl])
  intro i h1 h2
  simp only [List.length_map] at h1 h2
  simp only [List.getElem_map]
  exact stJ_stE (h i _ _ (List.getElem?_eq_getElem h2) (List.getElem?_eq_getElem h1))
theorem okR_of {es js : List FE} (hl : es.length = js.length) (h : ∀ (i : Nat) (e j : FE), es[i]? = some e → js[i]? = some j → toJ e j) (hok : ∀ e ∈ es, OkF e) (hz : SoundF es) : ∀ j ∈ js, OkR j := by
  intro j hm
  obtain ⟨i, hi, rfl⟩ := List.getElem_of_mem hm
  have he := List.getElem?_eq_getElem (show i < es.length by omega)
  obtain ⟨t1, t2, t3, t4, t5, t6, t7, t8⟩ := h i _ _ he (List.getElem?_eq_getElem hi)
  have hoe := hok _ (List.mem_of_getElem? he)
  have hze := hz _ (List.mem_of_getElem? he)
  exact ⟨by rw [t4, t7]; exact hoe.1, by rw [t4]; exact hoe.2.1, by rw [t6]; exact hze.2.2.2, by rw [t2]; exact hze.2.2.1⟩
/-- The object that the steps make. -/
def objE (es : List FE) : OT := objK (es.map stE) es.length
def FlPost (o : OT) (p : Int → Bool) (w : World) (e : Ending) (w' : World) : Prop :=
  (∃ A c ss, e = .returned (.tuple #[.slice A ss.length c, .bool true]) ∧ w'.ownsRow w.heap.size 9 1 (.slice A ss.length c) ss.length ((sortN ss).map encStr) ∧ NamesOf (visO o) p ss ∧ ss.length ≤ 1000 ∧ (∀ x ∈ ss, x.length ≤ maxLen)) ∧ Below w.heap.size w w'
set_option maxRecDepth 100000 in
set_option maxHeartbeats 1600000 in
theorem Fields_any (A : Option Addr) (n c : Nat) (es : List FE) (hid : Bool) (B : Nat) (w : World) (h : FSteps w B A n es) (hB : B ≤ w.heap.size) (hn : n ≤ 12) (hok : ∀ e ∈ es, OkF e) (hsz : SoundF es) :
    Calls Tryd.prog 9 #[.slice A n c, .bool hid] w (FlPost (objE es) (pF hid) w) := by
  have HL := Lib.hid h.1
  have HO := Lib.hid hok
  have HZ := Lib.hid hsz
  have K1 := Lib.hid (chain_any A n c es B w h hB hn hok)
  clear h hok hsz
  go_enter Tryd.func9, Tryd.ntmps9
  go_wp2_with fail
  refine K1.out.mono ?_
  rintro e1 w1 ⟨⟨A1, c1, js, rfl, hj, hto⟩, hb1⟩
  rw [HL.out] at hj ⊢
  have hjl : js.length = n := hj.1
  have hse : js.map stJ = es.map stE := sts_eq (by rw [HL.out, hjl]) hto
  have K2 := PartFields_any A1 n c1 js hid w1 hj hn (okR_of (by rw [HL.out, hjl]) hto HO.out HZ.out)
  have hoe : objK (js.map stJ) n = objE es := by unfold objE; rw [hse, HL.out]
  have hosz : sizeO (objE es) ≤ 13 := by have := objK_size (es.map stE) es.length; have := HL.out; unfold objE; omega
  rw [hoe] at K2
  have K2' := Lib.hid K2
  have HB1 := Lib.hid hb1
  clear K2 hoe hse hj hto hb1 K1
  generalize objE es = o at *
  go_wp2_with fail
  refine K2'.out.mono ?_
  rintro e2 w2 ⟨⟨v, ss, rfl, h1, h2, h3, h4⟩, hb2⟩
  have H1 := Lib.hid h1
  have H2 := Lib.hid h2
  have H4 := Lib.hid h4
  have HB2 := Lib.hid (HB1.out.trans (hb2.mono HB1.out.size))
  have hb1s : w.heap.size ≤ w1.heap.size := HB1.out.size
  have hb2s : w1.heap.size ≤ w2.heap.size := hb2.size
  clear h1 h2 h4 hb2 K2'
  obtain ⟨A3, c3, rfl⟩ := own_form H1.out
  have K3 := Lib.hid (sortS_any _ ss w1.heap.size w2 H1.out (by omega))
  go_wp2_with fail
  refine K3.out.mono ?_
  rintro e3 w3 ⟨rfl, h5, h6⟩
  have H5 := Lib.hid h5
  have HB3 := Lib.hid (HB2.out.grown h6 (by omega) (fun k hk => by have := (H1.out.lt k hk).1; omega))
  clear h5 h6 K3
  go_wp2_with fail
  go_ret2
  exact ⟨⟨A3, c3, ss, rfl, own_base H5.out hb1s, H2.out, by omega, H4.out⟩, HB3.out⟩
end Go.Proofs.YtkbjcpeogecbgaaDoor
