/-
  lexSymbol reads a C style comment: no token.
-/
import Derived.Test.YtpgmnggicmbacaaDoorSySymL
import Derived.Test.YtpgmnggicmbacaaDoorSyFap
import Derived.Test.YtpgmnggicmbacaaDoorSySplit
namespace Go.Proofs.YtpgmnggicmbacaaDoor
open Go.Shelf Go.RowKit
set_option linter.unusedVariables false
set_option linter.unusedSimpArgs false

theorem WkI.pos {b : Nat} {s : ByteArray} {K : LK} {w0 wr : World} {pos : Nat} (h : WkI b s K w0 wr pos) : lexPos b wr = pos := h.1.choose_spec.pos
theorem WkI.box {b : Nat} {s : ByteArray} {K : LK} {w0 wr : World} {pos : Nat} (h : WkI b s K w0 wr pos) {g : Nat} {t : TypeId} {x y : Value} (hB : Blk w0 g t #[x, y]) (hg : g ≠ b) : wr.cell? ⟨g, 0, none⟩ = some x ∧ wr.cell? ⟨g, 1, none⟩ = some y := by
  have h2 := hB.grown h.2 (fun e => hg (by injection e))
  exact ⟨h2.cell 0, h2.cell 1⟩
theorem WkI.errC {b : Nat} {s f g : ByteArray} {src : Option Addr} {w0 wr : World} {pos : Nat} (h : WkI b s (K0 f g src) w0 wr pos) (m : ByteArray) (x y : Int) :
    Calls Tryd.prog 71 #[.pointer (some ⟨b, 0, none⟩), .string m, .agg #[.int .i64 x, .int .i64 y]] wr (fun e w' => (∃ t u, e = .returned (.iface t u)) ∧ w0.grownBy w' (some b)) := by
  obtain ⟨⟨ls, h1⟩, h2⟩ := h
  refine (errPoint_any b s m (K0 f g src) src rfl pos ls x y wr h1).mono ?_
  rintro e w' ⟨he, hb⟩
  exact ⟨he, grown_trans h2 (grown_below hb _)⟩
/-- Lines that begin with a slash. -/
def LinesAt (w : World) (g N : Nat) : Prop := ∀ j, j < N → ∃ t : ByteArray, w.cell? ⟨g, j, none⟩ = some (.string t) ∧ (j = 0 → 0 < t.size ∧ by_ t 0 = 47)
theorem lines_at {w : World} {B n g cap : Nat} {t : ByteArray} {l : List Value} (h : w.ownsRow B 9 1 (.slice (some ⟨g, 0, none⟩) (n + 1) cap) (n + 1) (.string t :: l)) (hl : l.length = n) (h1 : 0 < t.size ∧ by_ t 0 = 47) (h2 : ∀ x ∈ (Value.string t :: l), ∃ t, x = Value.string t) : LinesAt w g (n + 1) := fun j hj => by
  have hc := h.cellAt j (by omega)
  have hlt : j < (Value.string t :: l).length := by simp; omega
  rw [List.getElem?_eq_getElem hlt] at hc
  obtain ⟨u, hu⟩ := h2 _ (List.getElem_mem hlt)
  rw [hu] at hc
  refine ⟨u, hc, fun e => ?_⟩
  subst e
  simp at hu
  rw [← hu]
  exact h1
theorem LinesAt.below {w w' : World} {g n : Nat} (h : LinesAt w g n) (hb : Below w.heap.size w w') : LinesAt w' g n := fun j hj => by
  obtain ⟨t, h1, h2⟩ := h j hj
  exact ⟨t, (hb.cell (World.block_lt_of_cell? w _ h1)).trans h1, h2⟩
set_option maxRecDepth 100000 in
set_option maxHeartbeats 25600000 in
theorem lexSym_c (b : Nat) (s f g : ByteArray) (src : Option Addr) (hs : s.size ≤ 1000000) (hx : by_ s 0 = 47) (hlt : 1 < s.size) (hx1 : by_ s 1 = 42) (w : World) (h : LexK w b s (K0 f g src) 0 0) (hT : TabsAt b w) :
    Calls Tryd.prog 44 #[.pointer (some ⟨b, 0, none⟩)] w (LsPost b w NoTok) := by
  have hbl := h.lt
  obtain ⟨fr, c9⟩ := h.c9
  have H0 := Lib.hid (show OpI b s (K0 f g src) w w 0 from ⟨h, grown_below (Below.refl _ _) _⟩)
  have HT := Lib.hid hT
  have r42 : peekR s 1 = 42 := by rw [(peek_by hlt (by omega)).1, hx1]; rfl
  have R42 := Lib.hid r42
  have HX := Lib.hid hx
  have HX1 := Lib.hid hx1
  clear h hT hx hx1 r42
  go_enter Tryd.func44, Tryd.ntmps44
  go_wp2_with fail
  refine (H0.out.nextC hs (by omega) (by rw [HX.out]; omega) (by rw [HX.out]; omega) HT.out hbl).mono ?_
  rintro e1 w1 ⟨rfl, h1⟩
  have H1 := Lib.hid h1
  clear h1 c9 H0
  rw [HX.out, show ((47 : Nat) : Int) = 47 from rfl]
  go_wp2_with fail
  refine (H1.out.peekC HT.out hbl).mono ?_
  rintro e2 w2 ⟨rfl, h2⟩
  have H2 := Lib.hid h2
  clear h2 H1
  rw [R42.out]
  go_wp2_with fail
  refine (H2.out.peekC HT.out hbl).mono ?_
  rintro e3 w3 ⟨rfl, h3⟩
  rw [R42.out]
  have H3 := Lib.hid h3
  obtain ⟨fr2, ln2, hB2⟩ : ∃ fr ln, Blk w3 b 81 (cellsX f g s (.pointer src) (.slice none 0 0) (.slice none 0 0) 0 1 1 fr 1 ln 0) := by
    obtain ⟨⟨fr, ln, hB, -⟩, -⟩ := h3
    exact ⟨fr, ln, hB⟩
  have c10 := hB2.cell 10
  have c12 := hB2.cell 12
  simp only [cellsX, List.getElem?_toArray, List.getElem?_cons_zero, List.getElem?_cons_succ] at c10 c12
  have HB2 := Lib.hid hB2
  clear h3 H2 hB2
  go_wp2_with fail
  go_quiet ((fail))
  have HQ := Lib.hid (H3.out.below (below_drewB (Below.refl _ _) nq))
  have HB3 : Hid (Blk (w3.drewN nq) b 81 (cellsX f g s (.pointer src) (.slice none 0 0) (.slice none 0 0) 0 1 1 fr2 1 ln2 0)) := Lib.hid (HB2.out.below (below_drewB (Below.refl _ _) nq) HB2.out.lt)
  clear H3 HB2 c10 c12
  generalize w3.drewN nq = w4 at HQ HB3 ⊢
  have c7 := HB3.out.cell 7
  have c8 := HB3.out.cell 8
  simp only [cellsX, List.getElem?_toArray, List.getElem?_cons_zero, List.getElem?_cons_succ] at c7 c8
  have hbl4 := HB3.out.lt
  go_upto_region 14 with fail
  have HBX := Lib.hid (Blk.new w4 51 #[.int .i64 1, .int .i64 1])
  have hcl : w4.heap.size ≠ b := by omega
  have H5 := Lib.hid (HQ.out.below (below_alloc1 w4 (.cells #[.int .i64 1, .int .i64 1] 51)))
  have HG0 := Lib.hid H5.out.2
  have hbl3 : b < (w4.alloc (.cells #[.int .i64 1, .int .i64 1] 51)).heap.size := by simp; omega
  have HT3 := Lib.hid (HT.out.grown H5.out.2 hbl)
  have H5b := Lib.hid (show WkI b s (K0 f g src) (w4.alloc (.cells #[.int .i64 1, .int .i64 1] 51)) (w4.alloc (.cells #[.int .i64 1, .int .i64 1] 51)) 1 from ⟨⟨0, H5.out.1⟩, grown_below (Below.refl _ _) _⟩)
  clear c7 c8 HQ H5 HB3
  generalize w4.heap.size = gb at HBX hcl
  generalize w4.alloc (.cells #[.int .i64 1, .int .i64 1] 51) = W3 at HBX HG0 hbl3 HT3 H5b ⊢
  go_wp2_with fail
  refine (H5b.out.nextC hs (by omega) HT3.out hbl3).mono ?_
  rintro e6 w6 ⟨rfl, h6⟩
  rw [(peek_by hlt (by rw [HX1.out]; omega)).2] at h6
  have H6 : Hid (WkI b s (K0 f g src) W3 w6 2) := Lib.hid h6
  clear h6 H5b
  rw [R42.out]
  go_wp2_with fail
  refine (H6.out.nextC hs (by omega) HT3.out hbl3).mono ?_
  rintro e7 w7 ⟨rfl, h7⟩
  have H7 := Lib.hid h7
  clear h7 H6
  obtain ⟨r0, hr0⟩ : ∃ r0, r0 = peekR s 2 := ⟨_, rfl⟩
  rw [← hr0]
  have HR0 := Lib.hid hr0
  clear hr0
  go_wp2_with fail
  go_loopw [11] (fun r wr => ∃ (k : Nat) (rv : Int), r = .int .i32 rv ∧ k ≤ s.size ∧ 2 ≤ k ∧ Hid (rv = peekR s k) ∧ Hid (WkI b s (K0 f g src) W3 wr (nextP s k))) (fun r wr => 2 * (s.size - lexPos b wr) + eofN (intOf r))
  case atStart => exact ⟨2, r0, rfl, by omega, by omega, HR0, H7⟩
  case round =>
    clear HR0 H7
    obtain ⟨k, rv, rfl, hk, hk2, HR, HI⟩ := hrel
    by_cases h42 : rv = 42
    · subst h42
      obtain ⟨g1, g2, g3⟩ := peek_one (c := 42) (by omega) HR.out.symm
      have HG2 := Lib.hid g2
      have HI2 : Hid (WkI b s (K0 f g src) W3 wr (k + 1)) := Lib.hid (by have := HI.out; rwa [g3] at this)
      have HLL := Lib.hid (left_less g1)
      have HG3 := Lib.hid g3
      clear g2 g3 HI
      go_wp2_with fail
      refine (HI2.out.peekC HT3.out hbl3).mono ?_
      rintro e8 w8 ⟨rfl, h8⟩
      have H8 := Lib.hid h8
      have HP := Lib.hid HI2.out.pos
      clear h8 HI2
      by_cases h47 : peekR s (k + 1) = 47
      · obtain ⟨q1, q2, q3⟩ := peek_one (c := 47) (by omega) h47
        rw [h47]
        have HQ3 := Lib.hid q3
        clear q2 q3 h47
        go_wp2_with fail
        refine (H8.out.nextC hs (by omega) HT3.out hbl3).mono ?_
        rintro e9 w9 ⟨rfl, h9⟩
        obtain ⟨z, hz⟩ : ∃ z, z = k + 1 + 1 := ⟨_, rfl⟩
        rw [HQ3.out, ← hz] at h9
        have hz1 : 2 ≤ z := by omega
        have hz2 : z ≤ s.size := by omega
        have H9 := Lib.hid h9
        have d2 := h9.1.choose_spec.c2
        have d6 : w9.cell? ⟨b, 6, none⟩ = some (.int .i64 0) := h9.1.choose_spec.c6
        have d10 := h9.1.choose_spec.c10
        have HSZ := Lib.hid (show (s.extract 0 z).size = z by rw [ByteArray.size_extract]; omega)
        have HCB := Lib.hid (show by_ (s.extract 0 z) 0 = 47 by
          have h := by_cut (s := s) (i := 0) (n := z) (k := 0) (by omega) (by omega)
          rw [show 0 + z = z by omega] at h
          rw [h]
          exact HX.out)
        have i1 : (0 : Int) ≤ (z : Int) := by omega
        have i2 : (z : Int) ≤ (s.size : Int) := by omega
        clear h9 H8 hz HQ3 HR HLL HG3 HP HG2
        go_wp2_with fail
        go_quiet ((fail))
        have H10 := Lib.hid (H9.out.peek (below_drewB (Below.refl _ _) nq))
        clear d2 d6 d10 H9 i1 i2
        generalize w9.drewN nq = w10 at H10 ⊢
        go_wp2_with fail
        refine (whiteK b s (K0 f g src) z _ hs hz2 _ H10.out.1.choose_spec (HT3.out.grown H10.out.2 hbl3)).mono ?_
        rintro e11 w11 ⟨l, i, t, ls2, rfl, g1, g2, g3, g4, g5⟩
        have H11 := Lib.hid g4
        have HG11 := Lib.hid (grown_trans (grown_trans HG0.out H10.out.2) g5)
        have wl : 0 < l → IntKind.i64.wrap ((l : Int) - 1) = ((l - 1 : Nat) : Int) := fun hl => by rw [IntWalk.i64_in _ (by omega)]; omega
        have WL := Lib.hid wl
        clear g4 g5 wl H10
        go_wp2_with fail
        refine (contains10_any (s.extract 0 z) _).mono ?_
        rintro e12 w12 ⟨⟨q, rfl⟩, hb12⟩
        have H12 := Lib.hid (H11.out.below hb12)
        have HG12 := Lib.hid (grown_trans HG11.out (grown_below hb12 _))
        clear hb12 H11 HG11
        cases q
        · go_wp2_with fail
          refine (FdI.addC ((FdI.start H12.out HG12.out).below (below_alloc1 _ _)) hbl 1 0 0 _ 1 1 (.inr (.inl ⟨rfl, rfl, rfl, rfl⟩)) (by omega) (by omega)).mono ?_
          rintro e13 w13 ⟨rfl, h13⟩
          have H13 := Lib.hid h13
          clear h13 H12
          rcases Nat.eq_zero_or_pos l with hl | hl
          · subst hl
            go_wp2_with fail
            go_ret
            exact H13.out.post
          · have ql : (0 : Int) < (l : Int) := by omega
            have wl := WL.out hl
            go_wp2_with fail
            refine (FdI.addC (H13.out.below (below_alloc1 _ _)) hbl 0 ((l - 1 : Nat) : Int) (i : Int) _ 0 0 (.inl ⟨rfl, by omega⟩) (by omega) (by omega)).mono ?_
            rintro e14 w14 ⟨rfl, h14⟩
            have H14 := Lib.hid h14
            clear h14 H13
            go_wp2_with fail
            go_ret
            exact H14.out.post
        · go_wp2_with fail
          refine (split_any (s.extract 0 z) (by rw [HSZ.out]; omega) (by rw [HSZ.out]; omega) HCB.out _).mono ?_
          rintro e13 w13 ⟨⟨n, g9, cap, t9, l9, rfl, hn, hg9, h47, hl9, hall, hown⟩, hb13⟩
          have hLN := lines_at hown hl9 h47 hall
          obtain ⟨N, hN⟩ : ∃ N, N = n + 1 := ⟨_, rfl⟩
          rw [← hN] at hLN ⊢
          have hN1 : 1 ≤ N := by omega
          have hN2 : N ≤ 1000005 := by omega
          have HLN := Lib.hid hLN
          have H13 := Lib.hid (H12.out.below hb13)
          have HG13 := Lib.hid (grown_trans HG12.out (grown_below hb13 _))
          clear hLN hown hall h47 hl9 hb13 H12 HG12 hg9 hN hn
          obtain ⟨t0, c0, h0⟩ := HLN.out 0 (by omega)
          obtain ⟨h01, h02⟩ := h0 rfl
          have hd0 : ((t0[0]'h01).toNat : Int) = 47 := by rw [by_eq h01, h02]; rfl
          have hN3 : (0 : Int) < (N : Int) := by omega
          clear h0 h02
          go_wp2_with fail
          clear c0 hd0 h01
          go_loopw [16, 149] (fun a v wr => ∃ (j : Nat) (q : Bool), a = .bool q ∧ v = .int .i64 j ∧ j ≤ N ∧ Hid (1 ≤ j → q = false) ∧ w13 = wr) (fun _ v _ => N - (intOf v).toNat)
          case atStart => exact ⟨0, true, rfl, rfl, by omega, Lib.hid (fun h => absurd h (by omega)), by trivial⟩
          case round =>
            obtain ⟨j, q, rfl, rfl, hj, HJ, rfl⟩ := hrel
            by_cases hlt2 : j < N
            · obtain ⟨tx, cx, hx0⟩ := HLN.out j hlt2
              have k0 : (0 : Int) ≤ (j : Int) := by omega
              have k1 : (j : Int) < (N : Int) := by omega
              by_cases hz : tx.size = 0
              · have q1 : ((tx.size : Int) == 0) = true := by rw [hz]; rfl
                clear hx0 hz
                go_wp2_with fail
                go_roundw
                case rel => exact ⟨j + 1, false, rfl, by go_num, by omega, Lib.hid (fun _ => rfl), by trivial⟩
                case measure => simp [intOf]; omega
              · have q1 : ((tx.size : Int) == 0) = false := by rw [beq_eq_false_iff_ne]; omega
                have h0x : 0 < tx.size := by omega
                rcases hq : (((tx[0]'h0x).toNat : Int) != 42) with _ | _
                · have HJ2 := Lib.hid (show 1 ≤ j + 1 → q = false from fun _ => by
                    rcases Nat.eq_zero_or_pos j with hj0 | hj0
                    · have h2 := (hx0 hj0).2
                      rw [← by_eq h0x] at h2
                      rw [h2] at hq
                      exact absurd hq (by decide)
                    · exact HJ.out hj0)
                  clear hx0 hz
                  go_wp2_with fail
                  go_roundw
                  case rel => exact ⟨j + 1, q, rfl, by go_num, by omega, HJ2, by trivial⟩
                  case measure => simp [intOf]; omega
                · clear hx0 hz
                  go_wp2_with fail
                  go_roundw
                  case rel => exact ⟨j + 1, false, rfl, by go_num, by omega, Lib.hid (fun _ => rfl), by trivial⟩
                  case measure => simp [intOf]; omega
            · obtain rfl : j = N := by omega
              obtain rfl : q = false := HJ.out hN1
              rcases Nat.eq_zero_or_pos l with hl | hl
              · subst hl
                go_wp2_with fail
                refine (safeC H13.out.w HG13.out hbl 0 0 (some ⟨g9, 0, none⟩) j cap (by omega) (by omega)).mono ?_
                rintro e14 w14 ⟨rfl, h14⟩
                have H14 := Lib.hid h14
                clear h14
                go_wp2_with fail
                go_ret
                exact H14.out.post
              · have ql : ((l : Int) == 0) = false := by rw [beq_eq_false_iff_ne]; omega
                have wl := WL.out hl
                go_wp2_with fail
                refine (safeC H13.out.w HG13.out hbl ((l - 1 : Nat) : Int) (i : Int) (some ⟨g9, 0, none⟩) j cap (by omega) (by omega)).mono ?_
                rintro e14 w14 ⟨rfl, h14⟩
                have H14 := Lib.hid h14
                clear h14
                go_wp2_with fail
                go_ret
                exact H14.out.post
      · obtain ⟨r1, hr1⟩ : ∃ r1, r1 = peekR s (k + 1) := ⟨_, rfl⟩
        have hne : (r1 != 47) = true := by rw [hr1]; simpa using h47
        have HR1 := Lib.hid hr1
        rw [← hr1]
        clear hr1 h47
        go_wp2_with fail
        refine (H8.out.nextC hs (by omega) HT3.out hbl3).mono ?_
        rintro e9 w9 ⟨rfl, h9⟩
        have H9 := Lib.hid h9
        clear h9
        obtain ⟨r2, hr2⟩ : ∃ r2, r2 = peekR s (k + 1) := ⟨_, rfl⟩
        rw [← hr2]
        have HR2 := Lib.hid hr2
        clear hr2
        go_wp2_with fail
        go_roundw
        case rel => exact ⟨k + 1, r2, rfl, by omega, by omega, HR2, H9⟩
        case measure =>
          rw [H9.out.pos, HP.out]
          have h := HLL.out
          rw [HG3.out, ← HR2.out] at h
          exact h
    · have q42 : (rv != 42) = true := by simpa using h42
      by_cases hm1 : rv = -1
      · subst hm1
        obtain ⟨x0, x1⟩ := HI.out.box HBX.out hcl
        go_wp2_with fail
        refine (HI.out.errC _ 1 1).mono ?_
        rintro e9 w9 ⟨⟨t9, y9, rfl⟩, hg9⟩
        have HG9 := Lib.hid (grown_trans HG0.out hg9)
        clear hg9
        go_wp2_with fail
        go_ret
        exact ⟨HG9.out, .inl ⟨t9, y9, rfl, .inl rfl⟩⟩
      · have q1 : (rv == -1) = false := by simpa using hm1
        have g1 : k < s.size := peek_not_eof (by rw [← HR.out]; exact hm1)
        have hin := nextP_in (s := s) (pos := k) hk
        have hn1 := nextP_lt g1
        have HLL := Lib.hid (left_less g1)
        have HP := Lib.hid HI.out.pos
        clear h42
        go_wp2_with fail
        refine (HI.out.nextC hs (by omega) HT3.out hbl3).mono ?_
        rintro e9 w9 ⟨rfl, h9⟩
        have H9 := Lib.hid h9
        clear h9
        obtain ⟨r2, hr2⟩ : ∃ r2, r2 = peekR s (nextP s k) := ⟨_, rfl⟩
        rw [← hr2]
        have HR2 := Lib.hid hr2
        clear hr2
        go_wp2_with fail
        go_roundw
        case rel => exact ⟨nextP s k, r2, rfl, by omega, by omega, HR2, H9⟩
        case measure =>
          rw [H9.out.pos, HP.out]
          have h := HLL.out
          rw [← HR2.out] at h
          rw [show eofN (intOf (Value.int .i32 rv)) = 1 from eofN_one hm1]
          exact h
end Go.Proofs.YtpgmnggicmbacaaDoor
