/-
  findField over an object that is made of others: by induction.
-/
import Derived.Test.YtkbjcpeogecbgaaDoorFsFind
import Derived.Test.YtkbjcpeogecbgaaDoorFsChain2
namespace Go.Proofs.YtkbjcpeogecbgaaDoor
open Go.RowKit Go.Maps

theorem belowS_set {a w' : World} (h : Below a.heap.size a w') {p : Addr} (hp : a.heap.size ≤ p.block) (u : Value) : Below a.heap.size a (w'.setCell p u) := h.setCell hp u
theorem keep2 {w w' : World} (hb : Below w.heap.size w w') {p1 p2 : Addr} {u1 u2 : Value} (c1 : w.cell? p1 = some u1) (c2 : w.cell? p2 = some u2) :
    Below w.heap.size w w' ∧ w'.cell? p1 = some u1 ∧ w'.cell? p2 = some u2 :=
  have k : ∀ {p : Addr} {u : Value}, w.cell? p = some u → w'.cell? p = some u := fun {p} {_} h => (hb.cell (World.block_lt_of_cell? w p h)).trans h
  ⟨hb, k c1, k c2⟩
def FC (W8 wx : World) (k : Nat) (gx : Nat) (ct : Int) : Prop := (∃ h : Int, Blk wx gx 74 #[.nilIface, .int .i64 h]) ∧ Below W8.heap.size W8 wx ∧ W8.heap.size ≤ gx ∧ 0 ≤ ct ∧ ct < k
theorem blk_two {w : World} {g : Nat} {t : TypeId} {a0 a1 : Value} (h : Blk w g t #[a0, a1]) (a b : Value) :
    (w.setCell ⟨g, 0, none⟩ a).cell? ⟨g, 0, none⟩ = some a ∧ ((w.setCell ⟨g, 0, none⟩ a).setCell ⟨g, 1, none⟩ b).cell? ⟨g, 1, none⟩ = some b ∧ ((w.setCell ⟨g, 0, none⟩ a).setCell ⟨g, 1, none⟩ b).cell? ⟨g, 0, none⟩ = some a := by
  have h1 : Blk (w.setCell ⟨g, 0, none⟩ a) g t #[a, a1] := by simpa using h.set_ 0 a
  have h2 : Blk ((w.setCell ⟨g, 0, none⟩ a).setCell ⟨g, 1, none⟩ b) g t #[a, b] := by simpa using h1.set_ 1 b
  have c0 := h1.cell 0
  have c1 := h2.cell 1
  have c2 := h2.cell 0
  simp only [List.getElem?_toArray, List.getElem?_cons_zero, List.getElem?_cons_succ] at c0 c1 c2
  exact ⟨c0, c1, c2⟩
theorem size_pos : ∀ o : OT, 1 ≤ sizeO o
  | .simple _ => Nat.le_refl _
  | .ext l _ => by simp only [sizeO]; omega
  | .restr _ _ => by simp only [sizeO]; omega
set_option maxRecDepth 100000 in
set_option maxHeartbeats 6400000 in
theorem ff_any (s : ByteArray) (hs : s.size ≤ maxLen) : ∀ (o : OT), noRestr o → ∀ (v : Value) (m : Int) (B : Nat) (w : World), m ≤ 0 → (sizeO o : Int) - 1000 ≤ m → OB w B o v → B ≤ w.heap.size → ∀ f, hasO o s = f →
    Calls Tryd.prog 26 #[v, .int .i64 m, .string s] w (FfPost f (sizeO o) w)
  | .restr _ _, h, _, _, _, _, _, _, _, _, _, _ => h.elim
  | .simple L, _, v, m, B, w, hm, _, h, hB, f, hf => ff_simple L v m hm s hs B w h hB f hf
  | .ext l L, hno, v, m, B, w, hm, hm2, h, hB, f, hf => by
    have IH := Lib.hid (ff_any s hs l hno)
    have HS := Lib.hid hs
    obtain ⟨g, vl, vr, rfl, hg, hBk, hl, hr⟩ := h
    obtain ⟨tl, gl, rfl, hgl⟩ := OB.shape hl
    have hR := hr
    obtain ⟨gr, br, nr, rfl, hgr, -, -, -⟩ := hr
    have a1 := asExt_ext
    have ms := method_simple
    have HBK := Lib.hid hBk
    have HLf := Lib.hid hl
    have HRt := Lib.hid hR
    have hB0 : Below w.heap.size w (w.alloc (.cells #[.nilIface, .int .i64 0] 74)) := belowS_alloc (Below.refl _ _) _
    have hk0 := hBk.below hB0 (by omega)
    have c1 := hk0.cell 1
    have c0 := hk0.cell 0
    simp only [List.getElem?_toArray, List.getElem?_cons_zero, List.getElem?_cons_succ] at c0 c1
    have HB0 := Lib.hid hB0
    have h1m : decide (1 > m) = true := by simp; omega
    have h1m' : m < 1 := by omega
    have HF := Lib.hid hf
    simp only [sizeO] at hm2
    have hszl := size_pos l
    clear hBk hl hR hB0 hk0 hf hno hs
    cases hfr : (lookL L s).isSome
    · have HFL : Hid (hasO l s = f) := Lib.hid (by
        have h1 := HF.out
        rw [hasO, hfr, Bool.false_or] at h1
        exact h1)
      have HFR := Lib.hid hfr
      clear hfr
      go_enter Tryd.func26, Tryd.ntmps26
      go_wp2_with (first
        | (go_at_call 75; refine (size_simple _ _).mono ?_; rintro e9 w9 ⟨rfl, rfl⟩)
        | (go_at_call 26; refine (ff_simple L _ m hm s HS.out w.heap.size _ ((HRt.out.below HB0.out hB).more hB) HB0.out.size false HFR.out).mono ?_; rintro e8 w8 ⟨⟨h8, ct8, rfl, hc8, hc8'⟩, hb8⟩))
      have hb8' : Below w.heap.size w (w8.alloc (.cells #[.nilIface, .int .i64 h8] 74)) := belowS_alloc (HB0.out.trans (hb8.mono HB0.out.size)) _
      have hT7 : Blk w8 w.heap.size 74 #[.nilIface, .int .i64 0] := (Blk.new w _ _).below hb8 (by simp)
      have hT7' := hT7.alloc (.cells #[.nilIface, .int .i64 h8] 74)
      have HT7 := Lib.hid hT7'
      have HB8 := Lib.hid hb8'
      clear hb8 hb8' hT7 hT7' c0 c1
      generalize w8.alloc (.cells #[.nilIface, .int .i64 h8] 74) = W8 at *
      have hk8 := HBK.out.below HB8.out (by omega)
      have c1 := hk8.cell 1
      have c0 := hk8.cell 0
      simp only [List.getElem?_toArray, List.getElem?_cons_zero, List.getElem?_cons_succ] at c0 c1
      have wm : IntKind.i64.wrap (m - 1) = m - 1 := IntWalk.i64_in _ (by omega)
      have hs8 : w.heap.size ≤ W8.heap.size := HB8.out.size
      clear hk8 h1m h1m'
      go_cut [17, 18, 19, 20, 21] (fun s17 s18 s19 s20 s21 wx => s17 = .bool f ∧ s19 = .map none ∧ s20 = .slice none 0 0 ∧ ∃ (gx : Nat) (ct : Int), s18 = .pointer (some ⟨gx, 0, none⟩) ∧ s21 = .int .i64 ct ∧ Hid (FC W8 wx (sizeO l) gx ct))
      case first =>
        go_region_held3 (fun w' => Below W8.heap.size W8 w' ∧ w'.cell? ⟨g, 0, none⟩ = some (.iface tl (.pointer (some ⟨gl, 0, none⟩))) ∧ w'.cell? ⟨g, 1, none⟩ = some (.iface 102 (.pointer (some ⟨gr, 0, none⟩))))
          ((refine keep2 ?_ c0 c1; repeat (first | with_reducible exact Below.refl _ _ | with_reducible exact hk9 | with_reducible apply Below.drew | with_reducible apply belowS_alloc | (with_reducible refine belowS_set ?_ (Nat.le_refl _) _))))
          (first
            | (go_at_call 75; refine (size_simple _ _).mono ?_; rintro e9 w9 ⟨rfl, rfl⟩)
            | (go_at_call 26; refine (IH.out _ (m - 1) w.heap.size W8.drew (by omega) (by omega) ((HLf.out.below HB8.out.drew hB).more hB) hs8 f HFL.out).mono ?_; rintro e9 w9 ⟨⟨h9, ct9, rfl, hc9, hc9'⟩, hb9⟩; have hk9 : Below W8.heap.size W8 w9 := (Below.refl W8.heap.size W8).drew.trans hb9)
            | (go_at_call 26; refine (IH.out _ (m - 1) w.heap.size (W8.alloc (.cells #[.nilIface, .int .i64 0] 74)).drew (by omega) (by omega) ((HLf.out.below (belowS_alloc HB8.out _).drew hB).more hB) (by show w.heap.size ≤ (W8.alloc _).heap.size; simp; omega) f HFL.out).mono ?_; rintro e9 w9 ⟨⟨h9, ct9, rfl, hc9, hc9'⟩, hb9⟩; have hk9 : Below W8.heap.size W8 w9 := (belowS_alloc (Below.refl W8.heap.size W8) _).drew.trans (hb9.mono (by show W8.heap.size ≤ (W8.alloc _).heap.size; simp)); have hN := ((Blk.new W8 74 #[.nilIface, .int .i64 0]).drew).below hb9 (by show W8.heap.size < (W8.alloc _).heap.size; simp); have n0 := hN.cell 0; have n1 := hN.cell 1; have n2 := hN.frozen 0; have n3 := hN.frozen 1; simp only [List.getElem?_toArray, List.getElem?_cons_zero, List.getElem?_cons_succ] at n0 n1))
        all_goals
          go_wp2_with fail
          go_meet
          first
            | exact ⟨rfl, rfl, rfl, _, _, rfl, rfl, Lib.hid ⟨⟨h9, Blk.new _ _ _⟩, belowS_alloc hk9 _, hk9.size, hc9, hc9'⟩⟩
            | exact ⟨rfl, rfl, rfl, _, _, rfl, rfl, Lib.hid ⟨⟨h9, by simpa using (hN.set_ 0 .nilIface).set_ 1 (.int .i64 h9)⟩, belowS_set (belowS_set hk9 (Nat.le_refl _) _) (Nat.le_refl _) _, Nat.le_refl _, hc9, hc9'⟩⟩
      case rest =>
        obtain ⟨rfl, rfl, rfl, gx, ct, rfl, rfl, HFC⟩ := hcut
        obtain ⟨⟨hx, hX⟩, hbx, hgx, ct0, ct1⟩ := HFC.out
        have hbw := Lib.hid (HB8.out.trans (hbx.mono hs8))
        have hkx := HBK.out.below hbw.out (by omega)
        have hTx := HT7.out.below hbx (by have := HT7.out.lt; omega)
        have e0 := hX.cell 0
        have e1 := hX.cell 1
        have e2 := hkx.cell 1
        have e3 := hTx.cell 0
        have e4 := hTx.cell 1
        have e5 := hTx.frozen 0
        have e6 := hTx.frozen 1
        simp only [List.getElem?_toArray, List.getElem?_cons_zero, List.getElem?_cons_succ] at e0 e1 e2 e3 e4
        have hne : gx ≠ w.heap.size := by have := HT7.out.lt; omega
        have hgw : g ≠ w.heap.size := by omega
        have wc1 : IntKind.i64.wrap (ct + 1) = ct + 1 := IntWalk.i64_in _ (by omega)
        have HX1 := Lib.hid hX
        have HTX := Lib.hid hTx
        clear hX hbx hkx hTx c0 c1
        go_wp2_with fail
        go_region_held3 (fun w' => w'.cell? ⟨gx, 0, none⟩ = some .nilIface ∧ w'.cell? ⟨gx, 1, none⟩ = some (.int .i64 hx) ∧ w'.cell? ⟨g, 1, none⟩ = some (.iface 102 (.pointer (some ⟨gr, 0, none⟩))))
          (first
            | exact ⟨e0, e1, e2⟩
            | exact ⟨(cs2 hne _ _).trans e0, (cs2 hne _ _).trans e1, (cs2 hgw _ _).trans e2⟩)
          ((go_at_call 75; refine (size_simple _ _).mono ?_; rintro e9 w9 ⟨rfl, rfl⟩))
        all_goals
          go_wp2_with fail
          refine bodyPost_ret (v := .tuple #[.bool f, .agg #[.nilIface, .int .i64 hx], .map none, .slice none 0 0, .int .i64 (ct + 1)]) ?_ rfl ⟨⟨hx, ct + 1, rfl, by omega, ?_⟩, ?_⟩
          · have z := blk_two HTX.out .nilIface (.int .i64 hx)
            have z1 : ((wc.setCell ⟨w.heap.size, 0, none⟩ .nilIface).setCell ⟨w.heap.size, 1, none⟩ (.int .i64 hx)).drew.cell? ⟨w.heap.size, 1, none⟩ = some (.int .i64 hx) := z.2.1
            simp [results, Tryd.results26, go_sem, z.1, z1, Result.andThen]
          · simp only [sizeO]; omega
          · exact (belowS_set (belowS_set hbw.out (Nat.le_refl _) _) (Nat.le_refl _) _).drew
    · have HFT : Hid (true = f) := Lib.hid (by
        have h1 := HF.out
        rw [hasO, hfr, Bool.true_or] at h1
        exact h1)
      have HFR := Lib.hid hfr
      clear hfr
      go_enter Tryd.func26, Tryd.ntmps26
      go_wp2_with (first
        | (go_at_call 75; refine (size_simple _ _).mono ?_; rintro e9 w9 ⟨rfl, rfl⟩)
        | (go_at_call 26; refine (ff_simple L _ m hm s HS.out w.heap.size _ ((HRt.out.below HB0.out hB).more hB) HB0.out.size true HFR.out).mono ?_; rintro e8 w8 ⟨⟨h8, ct8, rfl, hc8, hc8'⟩, hb8⟩))
      have hb8' : Below w.heap.size w (w8.alloc (.cells #[.nilIface, .int .i64 h8] 74)) := belowS_alloc (HB0.out.trans (hb8.mono HB0.out.size)) _
      have hT7 : Blk w8 w.heap.size 74 #[.nilIface, .int .i64 0] := (Blk.new w _ _).below hb8 (by simp)
      have hT7' := hT7.alloc (.cells #[.nilIface, .int .i64 h8] 74)
      have hN8 := Blk.new w8 74 #[.nilIface, .int .i64 h8]
      have hne : w8.heap.size ≠ w.heap.size := by have := hT7.lt; omega
      have HB8 := Lib.hid hb8'
      have HT7 := Lib.hid hT7'
      clear hb8 hb8' hT7 c0 c1
      generalize w8.alloc (.cells #[.nilIface, .int .i64 h8] 74) = W8 at *
      have e0 := hN8.cell 0
      have e1 := hN8.cell 1
      have e3 := hT7'.cell 0
      have e4 := hT7'.cell 1
      have e5 := hT7'.frozen 0
      have e6 := hT7'.frozen 1
      simp only [List.getElem?_toArray, List.getElem?_cons_zero, List.getElem?_cons_succ] at e0 e1 e3 e4
      clear hT7' hN8 h1m h1m'
      go_region_held3 (fun w' => w'.cell? ⟨w8.heap.size, 0, none⟩ = some .nilIface ∧ w'.cell? ⟨w8.heap.size, 1, none⟩ = some (.int .i64 h8))
        (first
          | exact ⟨e0, e1⟩
          | exact ⟨(cs2 hne _ _).trans e0, (cs2 hne _ _).trans e1⟩)
        (fail)
      all_goals
        go_wp2_with fail
        refine bodyPost_ret (v := .tuple #[.bool true, .agg #[.nilIface, .int .i64 h8], .map none, .slice none 0 0, .int .i64 ct8]) ?_ rfl ⟨⟨h8, ct8, by rw [← HFT.out], hc8, ?_⟩, ?_⟩
        · have z := blk_two HT7.out .nilIface (.int .i64 h8)
          have z1 : ((W8.setCell ⟨w.heap.size, 0, none⟩ .nilIface).setCell ⟨w.heap.size, 1, none⟩ (.int .i64 h8)).drew.cell? ⟨w.heap.size, 1, none⟩ = some (.int .i64 h8) := z.2.1
          simp [results, Tryd.results26, go_sem, z.1, z1, Result.andThen]
        · simp only [sizeO]; omega
        · exact (belowS_set (belowS_set HB8.out (Nat.le_refl _) _) (Nat.le_refl _) _).drew
end Go.Proofs.YtkbjcpeogecbgaaDoor
