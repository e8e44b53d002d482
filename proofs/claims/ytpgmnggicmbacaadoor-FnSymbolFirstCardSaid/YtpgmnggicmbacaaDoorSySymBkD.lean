/-
  lexSymbol reads a text block (a dash behind the bars). (Printed by wip/gen_symblk.py.)
-/
import Derived.Test.YtpgmnggicmbacaaDoorSyBkBase
import Derived.Test.YtpgmnggicmbacaaDoorLater
namespace Go.Proofs.YtpgmnggicmbacaaDoor
open Go.Shelf Go.RowKit
set_option linter.unusedVariables false
set_option linter.unusedSimpArgs false

set_option maxRecDepth 100000 in
set_option maxHeartbeats 25600000 in
theorem lexSym_bkD (b : Nat) (s f g : ByteArray) (src : Option Addr) (hs : s.size ≤ 1000000) (hb : bars (by_ s) s.size 0 = true) (hd : by_ s 3 = 45) (h4 : 4 ≤ s.size) (w : World) (h : LexK w b s (K0 f g src) 0 0) (hT : TabsAt b w) :
    Calls Tryd.prog 44 #[.pointer (some ⟨b, 0, none⟩)] w (LsPost b w (BkR s)) := by
  have hbb := hb
  unfold bars at hbb
  simp only [Bool.and_eq_true, decide_eq_true_eq, beq_iff_eq] at hbb
  obtain ⟨⟨⟨h3, b0⟩, b1⟩, b2⟩ := hbb
  simp only [Nat.zero_add] at h3 b1 b2
  have hbl := h.lt
  obtain ⟨fr, c9⟩ := h.c9
  obtain ⟨p0, n0⟩ := peek_by (s := s) (pos := 0) (by omega) (by omega)
  rw [b0] at p0
  have P0 := Lib.hid p0
  have N0 := Lib.hid n0
  have H0 := Lib.hid (show WkI b s (K0 f g src) w w 0 from ⟨⟨0, h⟩, grown_below (Below.refl _ _) _⟩)
  have HT := Lib.hid hT
  have pre : stG s ⟨#[124, 124]⟩ 1 = true := by
    have h1 := stG2 s 1 124 124 (by omega) (by omega)
    rw [show (⟨#[UInt8.ofNat 124, UInt8.ofNat 124]⟩ : ByteArray) = ⟨#[124, 124]⟩ from rfl] at h1
    rw [h1]
    unfold two
    simp [b1, b2]
    omega
  have PRE := Lib.hid pre
  have LOW := Lib.hid (show ∀ k, k < 2 → by_ s (1 + k) < 128 from fun k hk => by
    obtain rfl | rfl : k = 0 ∨ k = 1 := by omega
    · rw [b1]; omega
    · rw [b2]; omega)
  have Q3LOW := Lib.hid (show ∀ k, k < 3 → by_ s (0 + k) < 128 from fun k hk => by
    obtain rfl | rfl | rfl : k = 0 ∨ k = 1 ∨ k = 2 := by omega
    · rw [show 0 + 0 = 0 from rfl, b0]; omega
    · rw [show 0 + 1 = 1 from rfl, b1]; omega
    · rw [show 0 + 2 = 2 from rfl, b2]; omega)
  have Q4LOW := Lib.hid (show ∀ k, k < 4 → by_ s (0 + k) < 128 from fun k hk => by
    rcases Nat.lt_or_ge k 3 with g | g
    · exact Q3LOW.out k g
    · obtain rfl : k = 3 := by omega
      rw [show 0 + 3 = 3 from rfl, hd]
      omega)
  have HD0 := Lib.hid hd
  have r45 : (peekR s 3 == 45) = true := by
    have := (peek_is (s := s) (pos := 3) (c := 45) (by omega)).2 ⟨by omega, hd⟩
    simpa using this
  have nx3 : nextP s 3 = 4 := (peek_by (s := s) (pos := 3) (by omega) (by omega)).2
  have NX3 := Lib.hid nx3
  clear p0 n0 pre h hT b0 b1 b2 hb hd nx3
  go_enter Tryd.func44, Tryd.ntmps44
  go_wp2_with fail
  refine (H0.out.nextC hs (by omega) HT.out hbl).mono ?_
  rintro e1 w1 ⟨rfl, h1⟩
  rw [P0.out]
  rw [N0.out] at h1
  have H1 := Lib.hid h1
  have c2 := h1.1.choose_spec.c2
  have c10 := h1.1.choose_spec.c10
  have i0 : (0 : Int) ≤ 1 := by omega
  have i1 : (1 : Int) ≤ (s.size : Int) := by omega
  have KP := Lib.hid (fun y : Later w1 => pre_rest1 s ⟨#[124, 124]⟩ 1 hs (by show 2 ≤ _; omega) (by omega) y.val)
  rw [PRE.out] at KP
  clear h1 c9
  go_upto_region 49 with fail
  have k2 := fun y : Later w1 => Later.cell c2 y
  have k10 := fun y : Later w1 => Later.cell c10 y
  refine wp_region_later (by kernel_rfl) (by kernel_rfl) ?_
  repeat (go_big_quiet_step (first | (go_at_call 75; exact later_call (KP.out _))))
  refine wpQuiet_nil ?_
  rintro w2 ⟨y, rfl⟩
  have H2 := Lib.hid (H1.out.peek y.ok)
  clear KP k2 k10 c2 c10 H1 i0 i1
  generalize y.val = w2 at H2 ⊢
  obtain ⟨fr2, ln2, ls2, hB2⟩ : ∃ fr ln ls, Blk w2 b 81 (cellsX f g s (.pointer src) (.slice none 0 0) (.slice none 0 0) 0 1 1 fr 1 ln ls) := by
    obtain ⟨⟨ls, fr, ln, hB, -⟩, -⟩ := H2.out
    exact ⟨fr, ln, ls, hB⟩
  have c7 := hB2.cell 7
  have c8 := hB2.cell 8
  simp only [cellsX, List.getElem?_toArray, List.getElem?_cons_zero, List.getElem?_cons_succ] at c7 c8
  have hbl2 := hB2.lt
  clear hB2
  go_upto_region 51 with fail
  have HBX := Lib.hid (Blk.new w2 51 #[.int .i64 1, .int .i64 1])
  have hcl : w2.heap.size ≠ b := by omega
  have H3 := Lib.hid (H2.out.peek (below_alloc1 w2 (.cells #[.int .i64 1, .int .i64 1] 51)))
  have HG0 := Lib.hid H3.out.2
  have hbl3 : b < (w2.alloc (.cells #[.int .i64 1, .int .i64 1] 51)).heap.size := by simp; omega
  have HT3 := Lib.hid (HT.out.grown H3.out.2 hbl)
  have H3b := Lib.hid (show WkI b s (K0 f g src) (w2.alloc (.cells #[.int .i64 1, .int .i64 1] 51)) (w2.alloc (.cells #[.int .i64 1, .int .i64 1] 51)) 1 from ⟨H3.out.1, grown_below (Below.refl _ _) _⟩)
  clear c7 c8 H2 H3
  generalize w2.alloc (.cells #[.int .i64 1, .int .i64 1] 51) = W3 at HBX HG0 hbl3 HT3 H3b ⊢
  go_wp2_with fail
  refine (acceptK b s (K0 f g src) 1 2 hs (by omega) LOW.out W3 W3 H3b.out HT3.out hbl3).mono ?_
  rintro e4 w4 ⟨rfl, h4⟩
  have H4 := Lib.hid h4
  clear h4 H3b
  go_wp2_with fail
  refine (H4.out.peekC HT3.out hbl3).mono ?_
  rintro e5 w5 ⟨rfl, h5⟩
  have H5 := Lib.hid h5
  clear h5 H4
  go_wp2_with fail
  refine (H5.out.nextC hs (by omega) HT3.out hbl3).mono ?_
  rintro e6 w6 ⟨rfl, h6⟩
  rw [show (1 + 2 : Nat) = 3 from rfl, NX3.out] at h6
  have H6 := Lib.hid h6
  clear h6 H5
  go_upto_region 57 with fail
  have H7 := Lib.hid (TbI.start H6.out)
  clear H6
  generalize w6.alloc (.cells #[.slice none 0 0, .int .i64 0, .int .i8 0] 86) = w7 at H7 ⊢
  generalize w6.heap.size = c at H7 ⊢
  go_wp2_with fail
  refine (H7.out.nextC hs (by omega) HT3.out hbl3).mono ?_
  rintro e8 w8 ⟨rfl, h8⟩
  have H8 := Lib.hid h8
  clear h8 H7
  obtain ⟨r0, hr0⟩ : ∃ r0, r0 = peekR s 4 := ⟨_, rfl⟩
  rw [← hr0]
  have HR0 := Lib.hid hr0
  clear hr0
  go_wp2_with fail
  go_loopw [4] (fun r wr => ∃ (k : Nat) (rv : Int), r = .int .i32 rv ∧ k ≤ s.size ∧ Hid (rv = peekR s k) ∧ Hid (TbI b s (K0 f g src) W3 c wr (nextP s k) []) ∧ Hid (UpI hdB s 4 k)) (fun r wr => 2 * (s.size - lexPos b wr) + eofN (intOf r))
  case atStart => exact ⟨4, r0, rfl, by omega, HR0, H8, Lib.hid (UpI.start (by omega))⟩
  case round =>
    clear HR0 H8
    obtain ⟨k, rv, rfl, hk, HR, HI, HK⟩ := hrel
    by_cases hws : rv = 32 ∨ rv = 9 ∨ rv = 13
    · have HP := Lib.hid HI.out.pos
      rcases hws with rfl | rfl | rfl
      all_goals
        obtain ⟨g1, g2, g3⟩ : k < s.size ∧ hdB (by_ s k) = true ∧ nextP s k = k + 1 := by
          first
            | (obtain ⟨a1, a2, a3⟩ := peek_one (c := 32) (by omega) HR.out.symm; exact ⟨a1, by rw [a2]; rfl, a3⟩)
            | (obtain ⟨a1, a2, a3⟩ := peek_one (c := 9) (by omega) HR.out.symm; exact ⟨a1, by rw [a2]; rfl, a3⟩)
            | (obtain ⟨a1, a2, a3⟩ := peek_one (c := 13) (by omega) HR.out.symm; exact ⟨a1, by rw [a2]; rfl, a3⟩)
        have HN := Lib.hid (HK.out.more g1 g2)
        have HLL := Lib.hid (left_less g1)
        have HG3 := Lib.hid g3
        clear g2 g3 HR HK
        go_wp2_with fail
        refine (HI.out.nextC hs (by rw [HG3.out]; omega) HT3.out hbl3).mono ?_
        rintro e9 w9 ⟨rfl, h9⟩
        rw [HG3.out] at h9 ⊢
        have H9 := Lib.hid h9
        clear h9 HI
        go_wp2_with fail
        go_roundw
        case rel => exact ⟨k + 1, _, rfl, by omega, Lib.hid rfl, H9, HN⟩
        case measure =>
          rw [H9.out.pos, HP.out]
          have := HLL.out
          rw [HG3.out] at this ⊢
          exact this
    · have q1 : (rv == 32) = false := by simp; omega
      have q2 : (rv == 9) = false := by simp; omega
      have q3 : (rv == 13) = false := by simp; omega
      have hUp : Upto hdB (by_ s) s.size 4 k := HK.out.done (fun hl => hd_peek hl (by rw [← HR.out]; omega) (by rw [← HR.out]; omega) (by rw [← HR.out]; omega))
      have HUp := Lib.hid hUp
      clear hws hUp HK
      by_cases h10 : rv = 10
      · subst h10
        obtain ⟨g1, g2, g3⟩ := peek10 HR.out.symm
        have HNl := Lib.hid (show Nl (by_ s) s.size k from ⟨g1, g2⟩)
        have HI2 : Hid (TbI b s (K0 f g src) W3 c wr (k + 1) []) := Lib.hid (by have := HI.out; rwa [g3] at this)
        clear HR HI g2 g3 q1 q2 q3
        go_wp2_with fail
        refine (HI2.out.peekC HT3.out hbl3).mono ?_
        rintro e9 w9 ⟨rfl, h9⟩
        have H9 := Lib.hid h9
        clear h9 HI2
        obtain ⟨r1, hr1⟩ : ∃ r1, r1 = peekR s (k + 1) := ⟨_, rfl⟩
        rw [← hr1]
        have HR1 := Lib.hid hr1
        clear hr1
        go_wp2_with fail
        go_loopw [4] (fun r wr => ∃ (p : Nat) (rv : Int), r = .int .i32 rv ∧ p ≤ s.size ∧ k + 1 ≤ p ∧ Hid (rv = peekR s p) ∧ Hid (TbI b s (K0 f g src) W3 c wr p (blanks0 k p)) ∧ Hid (UpI nlB s (k + 1) p)) (fun _ wr => s.size - lexPos b wr)
        case atStart => exact ⟨k + 1, r1, rfl, by omega, Nat.le_refl _, HR1, Lib.hid (by have := H9.out; unfold blanks0; simpa using this), Lib.hid (UpI.start (by omega))⟩
        case round =>
          clear HR1 H9
          obtain ⟨p, rv, rfl, hp, hkp, HR, HI, HK⟩ := hrel
          by_cases h10 : rv = 10
          · subst h10
            obtain ⟨g1, g2, g3⟩ := peek10 HR.out.symm
            have HN := Lib.hid (HK.out.more g1 (by rw [g2]; rfl))
            have HP := Lib.hid HI.out.pos
            have HG3 := Lib.hid g3
            have HBM := Lib.hid (blanks_more k p hkp)
            have hll : (blanks0 k p).length ≤ 1000000 := by simp [blanks0]; omega
            clear HR HK g2 g3
            generalize blanks0 k p = vb at HI HBM hll
            go_wp2_with fail
            refine (HI.out.nextC hs (by omega) HT3.out hbl3).mono ?_
            rintro e9 w9 ⟨rfl, h9⟩
            rw [HG3.out] at h9
            have H9 := Lib.hid h9
            clear h9 HI
            go_wp2_with fail
            refine (H9.out.putC 10 (by omega) (by omega) (by omega)).mono ?_
            rintro e10 w10 ⟨⟨n10, rfl⟩, h10⟩
            rw [enc10, HBM.out] at h10
            have H10 := Lib.hid h10
            clear h10 H9
            go_wp2_with fail
            refine (H10.out.peekC HT3.out hbl3).mono ?_
            rintro e11 w11 ⟨rfl, h11⟩
            have H11 := Lib.hid h11
            clear h11 H10
            go_wp2_with fail
            go_roundw
            case rel => exact ⟨p + 1, _, rfl, by omega, by omega, Lib.hid rfl, H11, HN⟩
            case measure => rw [H11.out.pos, HP.out]; omega
          · have q10 : (rv == 10) = false := by simpa using h10
            have hU2 : Upto nlB (by_ s) s.size (k + 1) p := HK.out.done (fun hl => nl_peek hl (by rw [← HR.out]; exact h10))
            obtain ⟨z, hz⟩ := upto_ex2 wsB s s.size p hp (by omega)
            obtain ⟨m, rfl⟩ : ∃ m, z = p + m := ⟨z - p, by have := hz.1; omega⟩
            have hpm := hz.2.1
            have HH := Lib.hid (show HeadQ s 4 k p m from ⟨HUp.out, HNl.out, hU2, hz⟩)
            clear h10 hU2 hz HK HR
            have c2 := HI.out.c2
            have c10 := HI.out.c10
            have i0 : (0 : Int) ≤ (p : Int) := by omega
            have i1 : (p : Int) ≤ (s.size : Int) := by omega
            have i1n := hp
            go_upto_region 67 with fail
            have k2 := fun y : Later wr => Later.cell c2 y
            have k10 := fun y : Later wr => Later.cell c10 y
            have KP := Lib.hid (fun y : Later wr => cw_self2 s p m hs HH.out.mar y.val)
            refine wp_region_later (by kernel_rfl) (by kernel_rfl) ?_
            repeat (go_big_quiet_step (first | (go_at_call 77; exact later_call (KP.out _))))
            refine wpQuiet_nil ?_
            rintro w9 ⟨y, rfl⟩
            have HI2 := Lib.hid (HI.out.below y.ok)
            clear KP k2 k10 c2 c10 HI
            generalize y.val = w9 at HI2 ⊢
            have c2 := HI2.out.c2
            have c10 := HI2.out.c10
            have wm : IntKind.i64.wrap ((p : Int) + (m : Int)) = (p : Int) + (m : Int) := IntWalk.i64_in _ (by omega)
            have i2 : (p : Int) ≤ (p : Int) + (m : Int) := by omega
            have i3 : (p : Int) + (m : Int) ≤ (s.size : Int) := by omega
            go_wp2_with fail
            go_quiet ((fail))
            have HI3 := Lib.hid (HI2.out.below (below_drewB (Below.refl _ _) nq))
            clear HI2 c2 c10 wm i2 i3
            generalize w9.drewN nq = w10 at HI3 ⊢
            by_cases hm0 : m = 0
            · subst hm0
              obtain ⟨x0, x1⟩ := HI3.out.box HBX.out hcl
              have SAY := Lib.hid (show BlkSay s none from say_margin (fun h => absurd HD0.out h) HH.out)
              go_wp2_with fail
              refine (HI3.out.errC _ 1 1).mono ?_
              rintro e9 w9 ⟨⟨t9, y9, rfl⟩, hg9⟩
              have HG9 := Lib.hid (grown_trans HG0.out hg9)
              clear hg9
              go_wp2_with fail
              go_ret
              exact ⟨HG9.out, .inl ⟨t9, y9, rfl, SAY.out⟩⟩
            · have hm1 : 1 ≤ m := by omega
              have qm : ((m : Int) == 0) = false := by simp; omega
              have hl0 : (blanks0 k p).length ≤ 4 * p := by simp [blanks0]; omega
              have HRN0 := Lib.hid (rn_start HH.out (fun ht => tail_more (i := 0) ht 4 h4 (fun k hk => Q4LOW.out k hk)))
              have HNN0 := Lib.hid (marg_not HH.out.mar hm1)
              have HST0 := Lib.hid (margin_first HH.out.mar)
              clear hm0
              go_wp2_with fail
              go_loopw [4, 23] (fun _ nm wr => ∃ (a : Nat) (v : List UInt8), nm = .int .i64 (m : Int) ∧ a ≤ s.size ∧ v.length ≤ 4 * a ∧ Hid (TbI b s (K0 f g src) W3 c wr a v) ∧ Hid (RnI s k p m a v) ∧ Hid (¬ Nl (by_ s) s.size a) ∧ Hid (StM (by_ s) s.size p m a)) (fun _ _ wr => s.size - lexPos b wr)
              case atStart => exact ⟨p, _, rfl, hp, hl0, HI3, HRN0, HNN0, HST0⟩
              case round =>
                clear HI3 HRN0 HNN0 HST0 hl0
                obtain ⟨a, v, rfl, ha, hva, HI, HRN, HNN, HST⟩ := hrel
                have ham : a + m ≤ s.size := HST.out.1
                have HPA := Lib.hid HI.out.pos
                have qle : ¬ (m : Int) ≤ 0 := by omega
                go_wp2_with fail
                refine (acceptT b s (K0 f g src) c a m v hs ham (marg_low HH.out.mar HST.out) W3 _ HI.out HT3.out hbl3).mono ?_
                rintro e12 w12 ⟨rfl, h12⟩
                have H12 := Lib.hid h12
                clear h12 HI
                go_wp2_with fail
                refine (H12.out.nextC hs (by omega) HT3.out hbl3).mono ?_
                rintro e13 w13 ⟨rfl, h13⟩
                have H13 := Lib.hid h13
                clear h13 H12
                obtain ⟨r2, hr2⟩ : ∃ r2, r2 = peekR s (a + m) := ⟨_, rfl⟩
                rw [← hr2]
                have HR2 := Lib.hid hr2
                have HLN0 := Lib.hid (lnI_start (v := v) (rn_tail HRN.out HH.out.mar HST.out))
                clear hr2
                go_wp2_with fail
                go_loopw [4] (fun r wr => ∃ (q : Nat) (rv : Int) (v' : List UInt8), r = .int .i32 rv ∧ q ≤ s.size ∧ a + m ≤ q ∧ v'.length ≤ 4 * q ∧ Hid (rv = peekR s q) ∧ Hid (TbI b s (K0 f g src) W3 c wr (nextP s q) v') ∧ Hid (LnI s (a + m) q v v')) (fun r wr => 2 * (s.size - lexPos b wr) + eofN (intOf r))
                case atStart => exact ⟨a + m, r2, v, rfl, ham, Nat.le_refl _, by omega, HR2, H13, HLN0⟩
                case round =>
                  clear HR2 H13 HLN0
                  obtain ⟨q, rv, v', rfl, hq, haq, hvq, HR, HI, HLN⟩ := hrel
                  have HP := Lib.hid HI.out.pos
                  by_cases h10 : rv = 10
                  · subst h10
                    obtain ⟨g1, g2, g3⟩ := peek10 HR.out.symm
                    have HRN2 := Lib.hid (rn_line HRN.out HNN.out HST.out HLN.out HR.out.symm)
                    have HI2 : Hid (TbI b s (K0 f g src) W3 c wr (q + 1) v') := Lib.hid (by have := HI.out; rwa [g3] at this)
                    clear HR HI HLN g2 g3 HP
                    go_wp2_with fail
                    refine (HI2.out.putC 10 (by omega) (by omega) (by omega)).mono ?_
                    rintro e14 w14 ⟨⟨n14, rfl⟩, h14⟩
                    rw [enc10] at h14
                    have H14 := Lib.hid h14
                    clear h14 HI2
                    go_wp2_with fail
                    refine (H14.out.peekC HT3.out hbl3).mono ?_
                    rintro e15 w15 ⟨rfl, h15⟩
                    have H15 := Lib.hid h15
                    clear h15 H14
                    obtain ⟨r3, hr3⟩ : ∃ r3, r3 = peekR s (q + 1) := ⟨_, rfl⟩
                    rw [← hr3]
                    have HR3 := Lib.hid hr3
                    clear hr3
                    have hv2 : (v' ++ [10]).length ≤ 4 * (q + 1) := by simp; omega
                    have hv21 : 1 ≤ (v' ++ [10]).length := by simp
                    generalize v' ++ [10] = v2 at H15 HRN2 hv2 hv21
                    go_wp2_with fail
                    go_loopw [4] (fun r wr => ∃ (x : Nat) (rv : Int) (v3 : List UInt8), r = .int .i32 rv ∧ x ≤ s.size ∧ a + 1 ≤ x ∧ v3.length ≤ 4 * x ∧ Hid (rv = peekR s x) ∧ Hid (TbI b s (K0 f g src) W3 c wr x v3) ∧ Hid (RnI s k p m x v3) ∧ 1 ≤ v3.length) (fun _ wr => s.size - lexPos b wr)
                    case atStart => exact ⟨q + 1, r3, v2, rfl, by omega, by omega, hv2, HR3, H15, HRN2, hv21⟩
                    case round =>
                      clear HR3 H15 HRN2 hv2 hv21
                      obtain ⟨x, rv, v3, rfl, hx, hax, hv3, HR, HI, HRN3, hv31⟩ := hrel
                      have HP := Lib.hid HI.out.pos
                      by_cases h10 : rv = 10
                      · subst h10
                        obtain ⟨g1, g2, g3⟩ := peek10 HR.out.symm
                        have HRN4 := Lib.hid (rn_nl HRN3.out HR.out.symm)
                        have HG3 := Lib.hid g3
                        clear HR HRN3 g2 g3
                        go_wp2_with fail
                        refine (HI.out.nextC hs (by omega) HT3.out hbl3).mono ?_
                        rintro e16 w16 ⟨rfl, h16⟩
                        rw [HG3.out] at h16
                        have H16 := Lib.hid h16
                        clear h16 HI
                        go_wp2_with fail
                        refine (H16.out.putC 10 (by omega) (by omega) (by omega)).mono ?_
                        rintro e17 w17 ⟨⟨n17, rfl⟩, h17⟩
                        rw [enc10] at h17
                        have H17 := Lib.hid h17
                        clear h17 H16
                        go_wp2_with fail
                        refine (H17.out.peekC HT3.out hbl3).mono ?_
                        rintro e18 w18 ⟨rfl, h18⟩
                        have H18 := Lib.hid h18
                        clear h18 H17
                        go_wp2_with fail
                        go_roundw
                        case rel => exact ⟨x + 1, _, _, rfl, by omega, by omega, by simp; omega, Lib.hid rfl, H18, HRN4, by simp⟩
                        case measure => rw [H18.out.pos, HP.out]; omega
                      · have q10 : (rv == 10) = false := by simpa using h10
                        have HNN3 := Lib.hid (show ¬ Nl (by_ s) s.size x from peek_not10 (by rw [← HR.out]; exact h10))
                        have c2 := HI.out.c2
                        have c10 := HI.out.c10
                        have j0 : (0 : Int) ≤ (x : Int) := by omega
                        have j1 : (x : Int) ≤ (s.size : Int) := by omega
                        clear h10 HR
                        by_cases hst : StM (by_ s) s.size p m x
                        · have HST3 := Lib.hid hst
                          clear hst
                          go_upto_region 86 with fail
                          have k2 := fun y : Later wr => Later.cell c2 y
                          have k10 := fun y : Later wr => Later.cell c10 y
                          have KP := Lib.hid (fun y : Later wr => cw_yes s p m x hs HH.out.mar hx HST3.out y.val)
                          refine wp_region_later (by kernel_rfl) (by kernel_rfl) ?_
                          repeat (go_big_quiet_step (first | (go_at_call 77; exact later_call (KP.out _))))
                          refine wpQuiet_nil ?_
                          rintro w9 ⟨y, rfl⟩
                          have HI4 := Lib.hid (HI.out.below y.ok)
                          clear KP k2 k10 c2 c10 HI
                          generalize y.val = w9 at HI4 ⊢
                          go_wp2_with fail
                          go_roundw
                          case rel => exact ⟨x, v3, rfl, hx, hv3, HI4, HRN3, HNN3, HST3⟩
                          case measure => rw [HI4.out.pos, HPA.out]; omega
                        · have HST3 := Lib.hid hst
                          clear hst
                          go_upto_region 86 with fail
                          have k2 := fun y : Later wr => Later.cell c2 y
                          have k10 := fun y : Later wr => Later.cell c10 y
                          have KP := Lib.hid (fun y : Later wr => cw_no s p m x hs HH.out.mar hx HST3.out y.val)
                          refine wp_region_later (by kernel_rfl) (by kernel_rfl) ?_
                          repeat (go_big_quiet_step (first | (go_at_call 77; exact later_call (KP.out _))))
                          refine wpQuiet_nil ?_
                          rintro w9 ⟨y, rfl⟩
                          have HI4 := Lib.hid (HI.out.below y.ok)
                          clear KP k2 k10 c2 c10 HI
                          generalize y.val = w9 at HI4 ⊢
                          go_wp2_with fail
                          refine (HI4.out.peekC HT3.out hbl3).mono ?_
                          rintro e16 w16 ⟨rfl, h16⟩
                          have H16 := Lib.hid h16
                          clear h16 HI4
                          obtain ⟨r4, hr4⟩ : ∃ r4, r4 = peekR s x := ⟨_, rfl⟩
                          rw [← hr4]
                          have HR4 := Lib.hid hr4
                          clear hr4
                          go_wp2_with fail
                          go_loopw [4, 25] (fun r tmv wr => ∃ (z : Nat) (rv : Int) (tm : ByteArray), r = .int .i32 rv ∧ tmv = .string tm ∧ tm.size ≤ 4 * z ∧ z ≤ s.size ∧ x ≤ z ∧ Hid (rv = peekR s z) ∧ Hid (TbI b s (K0 f g src) W3 c wr z v3) ∧ Hid (UpI wsB s x z)) (fun _ _ wr => s.size - lexPos b wr)
                          case atStart => exact ⟨x, r4, _, rfl, rfl, by show 0 ≤ _; omega, hx, Nat.le_refl _, HR4, H16, Lib.hid (UpI.start hx)⟩
                          case round =>
                            clear HR4 H16
                            obtain ⟨z, rv, tm, rfl, rfl, htm, hz, hxz, HR, HI, HK⟩ := hrel
                            have HPZ := Lib.hid HI.out.pos
                            by_cases hws : rv = 32 ∨ rv = 9
                            · rcases hws with rfl | rfl
                              all_goals
                                obtain ⟨g1, g2, g3⟩ : z < s.size ∧ wsB (by_ s z) = true ∧ nextP s z = z + 1 := by
                                  first
                                    | (obtain ⟨a1, a2, a3⟩ := peek_one (c := 32) (by omega) HR.out.symm; exact ⟨a1, by rw [a2]; rfl, a3⟩)
                                    | (obtain ⟨a1, a2, a3⟩ := peek_one (c := 9) (by omega) HR.out.symm; exact ⟨a1, by rw [a2]; rfl, a3⟩)
                                have HN := Lib.hid (HK.out.more g1 g2)
                                have HG3 := Lib.hid g3
                                have hcat : ¬ 9223372036854775807 < tm.size + 1 := by omega
                                have hcat2 : tm.size + 1 ≤ 9223372036854775807 := by omega
                                have hc32 := encode_size_le 32
                                have hc9 := encode_size_le 9
                                have hcat3 : ¬ 9223372036854775807 < tm.size + (Utf8.encode 32).size := by omega
                                have hcat4 : ¬ 9223372036854775807 < tm.size + (Utf8.encode 9).size := by omega
                                clear g2 g3 HR HK
                                go_wp2_with fail
                                refine (HI.out.nextC hs (by omega) HT3.out hbl3).mono ?_
                                rintro e17 w17 ⟨rfl, h17⟩
                                rw [HG3.out] at h17
                                have H17 := Lib.hid h17
                                clear h17 HI
                                go_wp2_with fail
                                refine (H17.out.peekC HT3.out hbl3).mono ?_
                                rintro e18 w18 ⟨rfl, h18⟩
                                have H18 := Lib.hid h18
                                clear h18 H17
                                go_wp2_with fail
                                go_roundw
                                case rel => exact ⟨z + 1, _, _, rfl, rfl, by (first | (rw [ByteArray.size_append]; omega) | (simp only [ByteArray.size_append]; omega) | (simp [ByteArray.size_append]; omega)), by omega, by omega, Lib.hid rfl, H18, HN⟩
                                case measure => rw [H18.out.pos, HPZ.out]; omega
                            · have q1 : (rv == 32) = false := by simp; omega
                              have q2 : (rv == 9) = false := by simp; omega
                              have HUZ := Lib.hid (show Upto wsB (by_ s) s.size x z from HK.out.done (fun hl => ws_peek hl (by rw [← HR.out]; omega) (by rw [← HR.out]; omega)))
                              have c2 := HI.out.c2
                              have c10 := HI.out.c10
                              have l0 : (0 : Int) ≤ (z : Int) := by omega
                              have l1 : (z : Int) ≤ (s.size : Int) := by omega
                              have E3 := Lib.hid (stG3 s z)
                              clear hws HR HK
                              rcases hbz : bars (by_ s) s.size z with _ | _
                              · have HBZ := Lib.hid hbz
                                clear hbz
                                go_upto_region 94 with fail
                                have k2 := fun y : Later wr => Later.cell c2 y
                                have k10 := fun y : Later wr => Later.cell c10 y
                                have KP := Lib.hid (fun y : Later wr => pre_rest1 s ⟨#[124, 124, 124]⟩ z hs (by show 3 ≤ _; omega) hz y.val)
                                rw [E3.out, HBZ.out] at KP
                                refine wp_region_later (by kernel_rfl) (by kernel_rfl) ?_
                                repeat (go_big_quiet_step (first | (go_at_call 75; exact later_call (KP.out _))))
                                refine wpQuiet_nil ?_
                                rintro w9 ⟨y, rfl⟩
                                have HI5 := Lib.hid (HI.out.below y.ok)
                                clear KP k2 k10 c2 c10 HI
                                generalize y.val = w9 at HI5 ⊢
                                obtain ⟨x0, x1⟩ := HI5.out.box HBX.out hcl
                                have SAY := Lib.hid (show BlkSay s none from say_end (fun h => absurd HD0.out h) HH.out HRN3.out HNN3.out HST3.out HUZ.out HBZ.out)
                                go_wp2_with fail
                                refine (HI5.out.errC _ 1 1).mono ?_
                                rintro e9 w9 ⟨⟨t9, y9, rfl⟩, hg9⟩
                                have HG9 := Lib.hid (grown_trans HG0.out hg9)
                                clear hg9
                                go_wp2_with fail
                                go_ret
                                exact ⟨HG9.out, .inl ⟨t9, y9, rfl, SAY.out⟩⟩
                              · have HBZ := Lib.hid hbz
                                have hz3 : z + 3 ≤ s.size ∧ (∀ k, k < 3 → by_ s (z + k) < 128) := by
                                  unfold bars at hbz
                                  simp only [Bool.and_eq_true, decide_eq_true_eq, beq_iff_eq] at hbz
                                  refine ⟨hbz.1.1.1, fun k hk => ?_⟩
                                  obtain rfl | rfl | rfl : k = 0 ∨ k = 1 ∨ k = 2 := by omega
                                  · rw [show z + 0 = z from rfl, hbz.1.1.2]; omega
                                  · rw [hbz.1.2]; omega
                                  · rw [hbz.2]; omega
                                have hz3s := hz3.1
                                have HZ3 := Lib.hid hz3.2
                                clear hbz hz3
                                go_upto_region 94 with fail
                                have k2 := fun y : Later wr => Later.cell c2 y
                                have k10 := fun y : Later wr => Later.cell c10 y
                                have KP := Lib.hid (fun y : Later wr => pre_rest1 s ⟨#[124, 124, 124]⟩ z hs (by show 3 ≤ _; omega) hz y.val)
                                rw [E3.out, HBZ.out] at KP
                                refine wp_region_later (by kernel_rfl) (by kernel_rfl) ?_
                                repeat (go_big_quiet_step (first | (go_at_call 75; exact later_call (KP.out _))))
                                refine wpQuiet_nil ?_
                                rintro w9 ⟨y, rfl⟩
                                have HI5 := Lib.hid (HI.out.below y.ok)
                                clear KP k2 k10 c2 c10 HI
                                generalize y.val = w9 at HI5 ⊢
                                go_wp2_with fail
                                refine (acceptT b s (K0 f g src) c z 3 v3 hs hz3s HZ3.out W3 _ HI5.out HT3.out hbl3).mono ?_
                                rintro e17 w17 ⟨rfl, h17⟩
                                have H17 := Lib.hid h17
                                clear h17 HI5
                                go_wp2_with fail
                                refine H17.out.strC.mono ?_
                                rintro e18 w18 ⟨rfl, h18⟩
                                have H18 := Lib.hid h18
                                clear h18 H17
                                obtain ⟨str, hstr⟩ : ∃ str : ByteArray, str = ⟨v3.toArray⟩ := ⟨_, rfl⟩
                                rw [← hstr]
                                have hsl : str.size = v3.length := by rw [hstr]; show v3.toArray.size = _; simp
                                have HSV := Lib.hid (show str.data.toList = v3 by rw [hstr])
                                have HRES := Lib.hid (show BlkSay s (some v3) from say_ok (fun h => absurd HD0.out h) HH.out hm1 HRN3.out HNN3.out HST3.out HUZ.out HBZ.out)
                                clear hstr
                                have hs1 : 1 ≤ str.size := by omega
                                have s0 : (0 : Int) ≤ (str.size : Int) - 1 := by omega
                                have s1 : (str.size : Int) - 1 ≤ (str.size : Int) := by omega
                                have s2 : (1 : Int) ≤ (str.size : Int) := by omega
                                have ws1 : IntKind.i64.wrap ((str.size : Int) - 1) = (str.size : Int) - 1 := IntWalk.i64_in _ (by omega)
                                obtain ⟨ls18, hl18⟩ := H18.out.1.1
                                have HL18 := Lib.hid hl18.w
                                have HG18 := Lib.hid H18.out.1.2
                                clear hl18
                                go_wp2_with fail
                                refine (emitFull_any b s (str.extract 0 (v3.length - 1)) _ _ f g src none 0 0 0 1 1 (z + 3) ls18 13 (by omega) _ HL18.out).mono ?_
                                rintro e19 w19 ⟨rfl, g1, cap1, F1, h19, n1, n10, hg1, hgr1⟩
                                have H19 := Lib.hid h19
                                have HN := Lib.hid (And.intro n1 (And.intro n10 hgr1))
                                clear h19 n1 n10 hgr1 HL18
                                go_wp2_with fail
                                refine (resetTok_any b s _ (z + 3) ls18 (by omega) g1 cap1 13 (str.extract 0 (v3.length - 1)) rfl hg1 _ H19.out HN.out.1 HN.out.2.1).mono ?_
                                rintro e20 w20 ⟨rfl, h20, hg20⟩
                                have H20 := Lib.hid (And.intro h20 hg20)
                                clear h20 hg20
                                go_wp2_with fail
                                go_ret
                                exact ⟨grown_trans HG0.out (grown_trans HG18.out (grown_trans HN.out.2.2 H20.out.2)), .inr (.inr ⟨13, (str.extract 0 (v3.length - 1)), rfl, H20.out.1, rfl, fun h => absurd HD0.out h⟩)⟩
                  · have q10 : (rv != 10) = true := by simp; omega
                    by_cases he : rv = -1
                    · have hqe := peek_eof (s := s) (k := q) (by rw [← HR.out]; exact he)
                      subst he
                      clear h10
                      obtain ⟨x0, x1⟩ := HI.out.box HBX.out hcl
                      have SAY := Lib.hid (show BlkSay s none from say_eof (fun h => absurd HD0.out h) HH.out HRN.out HNN.out HST.out HLN.out hqe)
                      go_wp2_with fail
                      refine (HI.out.errC _ 1 1).mono ?_
                      rintro e9 w9 ⟨⟨t9, y9, rfl⟩, hg9⟩
                      have HG9 := Lib.hid (grown_trans HG0.out hg9)
                      clear hg9
                      go_wp2_with fail
                      go_ret
                      exact ⟨HG9.out, .inl ⟨t9, y9, rfl, SAY.out⟩⟩
                    · have g1 := peek_not_eof (s := s) (k := q) (by rw [← HR.out]; exact he)
                      have qe : (rv == -1) = false := by simpa using he
                      have HLN2 := Lib.hid (lnI_step HLN.out g1 (by rw [← HR.out]; exact h10))
                      have HLL := Lib.hid (left_less g1)
                      obtain ⟨rg1, rg2⟩ := peekR_rng s q
                      have h4l := enc4 (peekR s q)
                      have hnl := nextP_le s q
                      have hlt := nextP_lt g1
                      have hin := nextP_in (s := s) (pos := q) hq
                      rw [← HR.out] at HLN2 rg1 rg2 h4l
                      have HE := Lib.hid (And.intro he h10)
                      clear he h10 HLN
                      go_wp2_with fail
                      refine (HI.out.putC rv rg1 rg2 (by omega)).mono ?_
                      rintro e14 w14 ⟨⟨n14, rfl⟩, h14⟩
                      have H14 := Lib.hid h14
                      clear h14 HI
                      go_wp2_with fail
                      refine (H14.out.nextC hs (by omega) HT3.out hbl3).mono ?_
                      rintro e15 w15 ⟨rfl, h15⟩
                      have H15 := Lib.hid h15
                      clear h15 H14
                      go_wp2_with fail
                      go_roundw
                      case rel => exact ⟨nextP s q, _, _, rfl, hin, by omega, by rw [List.length_append]; omega, Lib.hid rfl, H15, HLN2⟩
                      case measure =>
                        rw [H15.out.pos, HP.out]
                        have := HLL.out
                        have h5 := HE.out.1
                        show _ < 2 * _ + eofN rv
                        rw [eofN_one h5]
                        exact this
      · have q10 : (rv != 10) = true := by simp; omega
        have hnl : ¬ Nl (by_ s) s.size k := peek_not10 (by rw [← HR.out]; exact h10)
        have HnNl := Lib.hid hnl
        clear h10 hnl
        obtain ⟨x0, x1⟩ := HI.out.box HBX.out hcl
        have SAY := Lib.hid (show BlkSay s none from say_head (fun h => absurd HD0.out h) HUp.out HnNl.out)
        go_wp2_with fail
        refine (HI.out.errC _ 1 1).mono ?_
        rintro e9 w9 ⟨⟨t9, y9, rfl⟩, hg9⟩
        have HG9 := Lib.hid (grown_trans HG0.out hg9)
        clear hg9
        go_wp2_with fail
        go_ret
        exact ⟨HG9.out, .inl ⟨t9, y9, rfl, SAY.out⟩⟩
end Go.Proofs.YtpgmnggicmbacaaDoor
