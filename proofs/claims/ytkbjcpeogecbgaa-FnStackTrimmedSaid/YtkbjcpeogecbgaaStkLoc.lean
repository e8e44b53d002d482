/-
  newLocal: one frame more that is no call.
-/
import Derived.Test.YtkbjcpeogecbgaaStkNew
namespace Go.Proofs.Ytkbjcpeogecbgaa
open Go.RowKit Go.Maps

theorem own_same {w w' : World} {base e size n : Nat} {v : Value} {xs : List Value} (h : w.ownsRow base e size v n xs) (hb : Below w.heap.size w w') : w'.ownsRow base e size v n xs := by
  refine ⟨h.1, ?_⟩
  rcases h.2 with h4 | ⟨g, cap, cur, h5, h6, h7, h8⟩
  · exact .inl h4
  · exact .inr ⟨g, cap, cur, h5, h6, Blk.below h7 hb (Blk.lt h7), h8⟩
set_option maxRecDepth 100000 in
set_option maxHeartbeats 3200000 in
theorem newLocal_any (base bS b : Nat) (F : List (Bool × Bool)) (c : Int) (t1 t2 : Option Addr) (w : World) (h : SI w base bS F c t1 t2) (hb : base ≤ bS) (hl : F.length ≤ 1000) (hm : MapN w w.heap.size b) :
    Calls Try.prog 19 #[.pointer (some ⟨bS, 0, none⟩), .map (some b)] w (MPost base bS (F ++ [(false, false)]) c none none w) := by
  obtain ⟨i0, hi, hz, hsz, hbb⟩ := info_parts info_cf
  obtain ⟨v, ps, lim, hB, hO, hF⟩ := h
  have hbw : base ≤ w.heap.size := by have := hB.lt; omega
  have HM := Lib.hid hm
  have HB := Lib.hid hB
  have HO := Lib.hid hO
  have HF := Lib.hid hF
  have q0 := hB.cell 0
  have q1 := hB.cell 1
  have q2 := hB.cell 2
  simp only [List.getElem?_toArray, List.getElem?_cons_zero, List.getElem?_cons_succ] at q0 q1 q2
  have hsb := hB.lt
  have KE := Lib.hid (fun w => mkEnv_any b none 0 w)
  clear hm hB hO hF
  go_enter Try.func19, Try.ntmps19
  go_wp2_with fail
  go_region_law (first
    | (go_simp; go_at_call 16; refine Calls.mono (KE.out _) ?_; rintro e wE ⟨rfl, hbE⟩; have hbE' : Below w.heap.size w wE := Below.trans (Below.refl w.heap.size w).drew hbE; have hBE := HB.out.below hbE' hsb; have hsE := hbE'.size; have p0 := hBE.cell 0; have p1 := hBE.cell 1; have p2 := hBE.cell 2; have p2a := (hBE.alloc (.cells #[.pointer t1, .pointer t2, .map (some b), .pointer none, .int .i64 0, .bool false, .bool false] 90)).cell 2; have p2b := ((hBE.alloc (.cells #[.pointer t1, .pointer t2, .map (some b), .pointer none, .int .i64 0, .bool false, .bool false] 90)).alloc (.cells #[.pointer (some ⟨wE.heap.size, 0, none⟩)] 88)).cell 2; simp only [List.getElem?_toArray, List.getElem?_cons_zero, List.getElem?_cons_succ] at p0 p1 p2 p2a p2b; have hOE : wE.ownsRow base 88 1 v F.length ps := own_same HO.out hbE')
    | (refine step_append_x _ (by rfl) _ _ 45 (by rfl) base 88 i0 _ 1 8 Try.underlying45 hi hz hsz hbb rfl (by omega) v F.length ps (by rfl) ((hOE.alloc _).alloc _) (wE.heap.size + 2) (some ⟨wE.heap.size + 1, 0, none⟩) 1 1 [.pointer (some ⟨wE.heap.size, 0, none⟩)] (by rfl) (Reads.ofBlock (cs := #[.pointer (some ⟨wE.heap.size, 0, none⟩)]) (heap_new1 _ _ _) rfl (by omega)) (by simp [Value.oneCell']) (.inr (by omega)) (by unfold maxLen; omega) (by omega) (by simp; omega) (wE.heap.size + 2) (by simp) ?_; intro g3 cap3 w2 hown2 hgrow2 hat2 hlt2; have hB2 := ((hBE.alloc (.cells #[.pointer t1, .pointer t2, .map (some b), .pointer none, .int .i64 0, .bool false, .bool false] 90)).alloc (.cells #[.pointer (some ⟨wE.heap.size, 0, none⟩)] 88)).grown hgrow2 (fun e => own_blk_ne hOE hBE (by decide) e.symm); have q4 := hB2.cell 2; have q4f := hB2.frozen 2))
  all_goals
    have hbx : Below wE.heap.size wE ((wE.alloc (.cells #[.pointer t1, .pointer t2, .map (some b), .pointer none, .int .i64 0, .bool false, .bool false] 90)).alloc (.cells #[.pointer (some ⟨wE.heap.size, 0, none⟩)] 88)) := ((Below.refl _ _).alloc (Nat.le_refl _) _).alloc (by simp) _
    have hbx2 : Below w.heap.size w ((wE.alloc (.cells #[.pointer t1, .pointer t2, .map (some b), .pointer none, .int .i64 0, .bool false, .bool false] 90)).alloc (.cells #[.pointer (some ⟨wE.heap.size, 0, none⟩)] 88)) := hbE'.trans (hbx.mono hsE)
    have R := si_push (f := (false, false)) (w := w) ((hBE.alloc (.cells #[.pointer t1, .pointer t2, .map (some b), .pointer none, .int .i64 0, .bool false, .bool false] 90)).alloc (.cells #[.pointer (some ⟨wE.heap.size, 0, none⟩)] 88)) ((hOE.alloc (.cells #[.pointer t1, .pointer t2, .map (some b), .pointer none, .int .i64 0, .bool false, .bool false] 90)).alloc (.cells #[.pointer (some ⟨wE.heap.size, 0, none⟩)] 88)) ((HF.out.below hbx2 (Nat.le_refl _)).more hbx2.size) ((HM.out.below hbx2 (Nat.le_refl _)).more hbx2.size) ((Blk.new wE 90 #[.pointer t1, .pointer t2, .map (some b), .pointer none, .int .i64 0, .bool false, .bool false]).alloc (.cells #[.pointer (some ⟨wE.heap.size, 0, none⟩)] 88)) hown2 hgrow2 ((Below.refl base w).trans (hbx2.mono hbw)) (KeptT.of_below hbx2) hb (by have := hbx2.size; omega)
    obtain ⟨-, R1, R2, R3⟩ := R
    have HR1 := Lib.hid R1
    have HR2 := Lib.hid R2
    have HR3 := Lib.hid R3
    clear R1 R2 R3 hgrow2 hown2 hat2 hB2 q4 q4f hbx hbx2 hBE hOE p0 p1 p2 p2a p2b hbE hbE'
    go_wp2_with fail
    refine (clear_any base bS _ c _ _ _ HR1.out hb).mono ?_
    rintro e w4 ⟨rfl, hm4, hb4, hk4⟩
    have HB4 := Lib.hid (HR2.out.trans hb4)
    have HK4 := Lib.hid (HR3.out.trans hk4)
    have HM4 := Lib.hid hm4
    clear hb4 hk4 hm4
    go_wp2_with fail
    go_end0
    exact ⟨rfl, HM4.out, HB4.out, HK4.out⟩
end Go.Proofs.Ytkbjcpeogecbgaa
