/-
  lexSymbol reads an operator (part C2). (Printed by wip/gen_symop.py.)
-/
import Derived.Test.YtpgmnggicmbacaaDoorSyOpBase
import Derived.Test.YtpgmnggicmbacaaDoorLater
namespace Go.Proofs.YtpgmnggicmbacaaDoor
open Go.Shelf Go.RowKit
set_option linter.unusedVariables false
set_option linter.unusedSimpArgs false
set_option maxRecDepth 100000 in
set_option maxHeartbeats 25600000 in
theorem lexSym_opC2 (b : Nat) (s f g : ByteArray) (src : Option Addr) (hs : s.size ≤ 1000000) (h0 : Sym0 s) (_hc : ¬ Comm s) (_hb3 : bars (by_ s) s.size 0 = false) (hx : by_ s 0 ≠ 47 ∧ by_ s 0 ≠ 124) (T : Nat) (hSt : Stop (goI (by_ s) s.size) T) (hTs : T ≤ s.size) (hw : Why s 2 T) (w : World) (h : LexK w b s (K0 f g src) 0 0) (hT : TabsAt b w) :
    Calls Tryd.prog 44 #[.pointer (some ⟨b, 0, none⟩)] w (LsPost b w (OpR s)) := by
  obtain ⟨hlt, hop⟩ := h0
  obtain ⟨hlow, hn10, hn35⟩ := opB_low hop
  have hbl := h.lt
  obtain ⟨fr, c9⟩ := h.c9
  have H0 := Lib.hid (show OpI b s (K0 f g src) w w 0 from ⟨h, grown_below (Below.refl _ _) _⟩)
  have HT := Lib.hid hT
  have q35 : (((by_ s 0 : Nat) : Int) == 35) = false := by simp; omega
  have HSt := Lib.hid hSt
  have hwhy := Lib.hid hw
  clear hSt hw
  have p47 : (((by_ s 0 : Nat) : Int) == 47) = false := by simp; omega
  have p124 : (((by_ s 0 : Nat) : Int) == 124) = false := by simp; omega
  clear  h hT hx
  go_enter Tryd.func44, Tryd.ntmps44
  go_wp2_with fail
  refine (H0.out.nextC hs hlt hlow hn10 HT.out hbl).mono ?_
  rintro e1 w1 ⟨rfl, h1⟩
  have H1 := Lib.hid h1
  clear h1 c9 H0 hop hlow hn10 hn35
  go_wp2_with fail
  go_quiet ((fail))
  have H3 := Lib.hid (H1.out.below (below_drewB (Below.refl _ _) nq))
  clear H1
  go_wp2_with fail
  refine (H3.out.peekC HT.out hbl).mono ?_
  rintro e4 w4 ⟨rfl, h4⟩
  have H4 := Lib.hid h4
  clear h4 H3
  obtain ⟨r0, hr0⟩ : ∃ r0, r0 = peekR s 1 := ⟨_, rfl⟩
  rw [← hr0]
  have HR0 := Lib.hid hr0
  clear hr0
  have hT1 : 1 ≤ T := HSt.out.1
  go_wp2_with fail
  go_loopw [4] (fun r wr => ∃ (t : Nat) (rv : Int), r = .int .i32 rv ∧ 1 ≤ t ∧ t ≤ T ∧ Hid (rv = peekR s t) ∧ Hid (OpI b s (K0 f g src) w wr t)) (fun _ wr => s.size - lexPos b wr)
  case atStart => exact ⟨1, r0, rfl, Nat.le_refl _, hT1, HR0, H4⟩
  case round =>
    clear HR0 H4
    obtain ⟨t, rv, rfl, ht1, htT, HR, HI⟩ := hrel
    have hts : t ≤ s.size := by omega
    by_cases htt : t = T
    · subst htt
      have HS := HSt
      obtain ⟨hw1, hw2, hw3⟩ := (show t < s.size ∧ by_ s t = 124 ∧ stG s ⟨#[124, 124]⟩ t = true from hwhy.out)
      have HBB := Lib.hid hw3
      have hrv : rv = 124 := by
        rw [HR.out]
        have := (peek_is (s := s) (pos := t) (c := 124) (by omega)).2 ⟨hw1, hw2⟩
        simpa using this
      subst hrv
      have c2 := HI.out.1.c2
      have c10 := HI.out.1.c10
      have i0 : (0 : Int) ≤ (t : Int) := by omega
      have i1 : (t : Int) ≤ (s.size : Int) := by omega
      clear hw2 hw3 HR
      go_wp2_with fail
      refine (isSym_any _ _).mono ?_
      rintro e5 w5 ⟨rfl, rfl⟩
      rw [show ([33, 36, 58, 126, 43, 45, 38, 124, 94, 61, 60, 62, 42, 47, 37] : List Int).contains 124 = true from rfl]
      go_wp2_with fail
      go_quiet ((fail))
      have HIq := Lib.hid (HI.out.below (below_drewB (Below.refl _ _) nq))
      generalize wr.drewN nq = wq at HIq ⊢
      go_wp2_with fail
      go_quiet ((fail))
      have HIp := Lib.hid (HIq.out.below (below_drewB (Below.refl _ _) nq))
      clear HI HIq c2 c10
      generalize wq.drewN nq = wp at HIp ⊢
      have c2 := HIp.out.1.c2
      have c10 := HIp.out.1.c10
      have KP := Lib.hid (fun y : Later wp => pre_rest1 s ⟨#[124, 124]⟩ t hs (by show 2 ≤ _; omega) hts y.val)
      rw [HBB.out] at KP
      go_upto_region 108 with fail
      have k2 := fun y : Later wp => Later.cell c2 y
      have k10 := fun y : Later wp => Later.cell c10 y
      refine wp_region_later (by kernel_rfl) (by kernel_rfl) ?_
      repeat (go_big_quiet_step (first | (go_at_call 75; exact later_call (KP.out _))))
      refine wpQuiet_nil ?_
      rintro w6 ⟨y, rfl⟩
      have HE := Lib.hid (HIp.out.below y.ok)
      clear KP k2 k10 c2 c10 HIp
      generalize y.val = w6 at HE ⊢
      have c2 := HE.out.1.c2
      have c10 := HE.out.1.c10
      have ht0 : t - 1 < s.size := by omega
      have i0 : (1 : Int) ≤ (t : Int) := by omega
      have i1 : (t : Int) - 1 < (s.size : Int) := by omega
      have wt : IntKind.i64.wrap ((t : Int) - 1) = (t : Int) - 1 := IntWalk.i64_in _ (by omega)
      have ww : wrap32 ((s[t - 1]'ht0).toNat : Int) = ((by_ s (t - 1) : Nat) : Int) := by
        rw [by_eq ht0]
        have := by_lt s (t - 1)
        unfold wrap32
        omega
      go_wp2_with fail
      go_quiet ((fail))
      have HV0 := Lib.hid (show WdI b s (K0 f g src) w _ t from ⟨(HE.out.below (below_drewB (Below.refl _ _) nq)).1.w, (HE.out.below (below_drewB (Below.refl _ _) nq)).2⟩)
      have ww2 : wrap32 ((by_ s (t - 1) : Nat) : Int) = ((by_ s (t - 1) : Nat) : Int) := by rw [by_eq ht0] at ww; exact ww
      simp only [by_eq ht0, ww2]
      clear HE c2 c10 i0 i1 wt ww ww2
      go_wp2_with fail
      go_loopw [455] (fun _ wr => ∃ j : Nat, 1 ≤ j ∧ j ≤ t ∧ Hid (WdI b s (K0 f g src) w wr j) ∧ Hid (WdOk s t j)) (fun _ wr => lexPos b wr)
      case atStart => exact ⟨t, ht1, Nat.le_refl _, HV0, Lib.hid (show WdOk s t t from fun _ => rfl)⟩
      case round =>
        clear HV0
        obtain ⟨j, hj1, hjt, HV, HJ0⟩ := hrel
        have c6 := HV.out.1.cells3.2.1
        change _ = some (Value.int .i64 0) at c6
        have c10 := HV.out.1.cells3.2.2
        have hjp := HV.out.pos
        have HJP := Lib.hid hjp
        clear hjp
        by_cases hj : 1 < j
        · have i2 : (1 : Int) < (j : Int) := by omega
          rcases hw : windB (by_ s (t - 1)) with _ | _
          · have HJ := Lib.hid (show j = woundI (by_ s) t from by rw [HJ0.out hw]; unfold woundI; rw [hw]; rfl)
            obtain ⟨n1, n2, n3, n4, n5⟩ := windB_not hw
            have q1 : (((by_ s (t - 1) : Nat) : Int) == 43) = false := by simp; omega
            have q2 : (((by_ s (t - 1) : Nat) : Int) == 45) = false := by simp; omega
            have q3 : (((by_ s (t - 1) : Nat) : Int) == 126) = false := by simp; omega
            have q4 : (((by_ s (t - 1) : Nat) : Int) == 33) = false := by simp; omega
            have q5 : (((by_ s (t - 1) : Nat) : Int) == 36) = false := by simp; omega
            clear hw n1 n2 n3 n4 n5 HJ0
            go_wp2_with fail
            go_quiet ((fail))
            have HVq := Lib.hid (HV.out.below (below_drewB (Below.refl _ _) nq))
            clear HV c6 c10
            generalize wr.drewN nq = w7 at HVq ⊢
            have HV := HVq
            clear HVq
            go_wp2_with fail
            have c2 := HV.out.1.cells3.1
            have c6 := HV.out.1.cells3.2.1
            change _ = some (Value.int .i64 0) at c6
            have c10 := HV.out.1.cells3.2.2
            have i0 : (0 : Int) ≤ (j : Int) := by omega
            have i1 : (j : Int) ≤ (s.size : Int) := by omega
            have i1n : j ≤ s.size := by omega
            by_cases hd : s.extract 0 j = dollarT
            · have qd : ((s.extract 0 j).toList == [(36 : UInt8)]) = true := by rw [hd, ByteArray.toList_eq]; rfl
              have HD := Lib.hid (show (5 : Int) = if s.extract 0 j = dollarT then 5 else 12 by rw [if_pos hd])
              clear hd
              go_wp2_with fail
              go_quiet ((fail))
              have HV2 := Lib.hid (HV.out.below (below_drewB (Below.refl _ _) nq))
              clear HV c2 c6 c10
              go_wp2_with fail
              refine (emitTok_any b s f g src j 5 hs (by omega) _ HV2.out.1).mono ?_
              rintro e8 w8 ⟨rfl, htk, hg8⟩
              have H8 := Lib.hid (And.intro htk (grown_trans HV2.out.2 hg8))
              clear htk hg8
              go_wp2_with fail
              go_ret
              exact ⟨H8.out.2, .inr (.inr ⟨5, _, rfl, H8.out.1, OpR.yes HS.out HJ.out rfl HD.out⟩)⟩
            · have qd : ((s.extract 0 j).toList == [(36 : UInt8)]) = false := by
                cases hx : ((s.extract 0 j).toList == [(36 : UInt8)])
                · rfl
                · exfalso
                  apply hd
                  rw [beq_iff_eq, ByteArray.toList_eq] at hx
                  exact bytes_ext hx
              have HD := Lib.hid (show (12 : Int) = if s.extract 0 j = dollarT then 5 else 12 by rw [if_neg hd])
              clear hd
              go_wp2_with fail
              go_quiet ((fail))
              have HV2 := Lib.hid (HV.out.below (below_drewB (Below.refl _ _) nq))
              clear HV c2 c6 c10
              go_wp2_with fail
              refine (emitTok_any b s f g src j 12 hs (by omega) _ HV2.out.1).mono ?_
              rintro e8 w8 ⟨rfl, htk, hg8⟩
              have H8 := Lib.hid (And.intro htk (grown_trans HV2.out.2 hg8))
              clear htk hg8
              go_wp2_with fail
              go_ret
              exact ⟨H8.out.2, .inr (.inr ⟨12, _, rfl, H8.out.1, OpR.yes HS.out HJ.out rfl HD.out⟩)⟩
          · have hc3 := windB_cases hw
            have HJ1 := Lib.hid (show WdOk s t (j - 1) from fun h => by rw [hw] at h; cases h)
            have wj : IntKind.i64.wrap ((j : Int) - 1) = (j : Int) - 1 := IntWalk.i64_in _ (by omega)
            clear hw HJ0
            rcases hc3 with hc3 | hc3 | hc3 | hc3 | hc3
            all_goals
              have hc4 : ((by_ s (t - 1) : Nat) : Int) = _ := congrArg Nat.cast hc3
              clear hc3
              go_wp2_with fail
              go_quiet ((fail))
              have HVq := Lib.hid (HV.out.below (below_drewB (Below.refl _ _) nq))
              have c10 : (wr.drewN nq).cell? ⟨b, 10, none⟩ = some (.int .i64 (j : Int)) := c10
              clear HV c6
              generalize wr.drewN nq = w7 at HVq c10 ⊢
              have f10 := HVq.out.frozen
              have HV9 := Lib.hid (HVq.out.to (j - 1) (v := (j : Int) - 1) (by omega))
              go_wp2_with fail
              go_roundw
              case rel => exact ⟨j - 1, by omega, by omega, HV9, HJ1⟩
              case measure => rw [HV9.out.pos, HJP.out]; omega
        · obtain rfl : j = 1 := by omega
          have HJ := Lib.hid (show 1 = woundI (by_ s) t from by
            unfold woundI
            cases hw : windB (by_ s (t - 1))
            · exact HJ0.out hw
            · rfl)
          clear HJ0 hj
          obtain ⟨j, hjj⟩ : ∃ j, j = 1 := ⟨_, rfl⟩
          rw [← hjj] at HV HJ HJP c10 hj1 hjt
          have i2 : ¬ (1 : Int) < (j : Int) := by omega
          clear hjj
          go_wp2_with fail
          go_quiet ((fail))
          have HVq := Lib.hid (HV.out.below (below_drewB (Below.refl _ _) nq))
          clear HV c6 c10
          generalize wr.drewN nq = w7 at HVq ⊢
          have HV := HVq
          clear HVq
          go_wp2_with fail
          have c2 := HV.out.1.cells3.1
          have c6 := HV.out.1.cells3.2.1
          change _ = some (Value.int .i64 0) at c6
          have c10 := HV.out.1.cells3.2.2
          have i0 : (0 : Int) ≤ (j : Int) := by omega
          have i1 : (j : Int) ≤ (s.size : Int) := by omega
          have i1n : j ≤ s.size := by omega
          by_cases hd : s.extract 0 j = dollarT
          · have qd : ((s.extract 0 j).toList == [(36 : UInt8)]) = true := by rw [hd, ByteArray.toList_eq]; rfl
            have HD := Lib.hid (show (5 : Int) = if s.extract 0 j = dollarT then 5 else 12 by rw [if_pos hd])
            clear hd
            go_wp2_with fail
            go_quiet ((fail))
            have HV2 := Lib.hid (HV.out.below (below_drewB (Below.refl _ _) nq))
            clear HV c2 c6 c10
            go_wp2_with fail
            refine (emitTok_any b s f g src j 5 hs (by omega) _ HV2.out.1).mono ?_
            rintro e8 w8 ⟨rfl, htk, hg8⟩
            have H8 := Lib.hid (And.intro htk (grown_trans HV2.out.2 hg8))
            clear htk hg8
            go_wp2_with fail
            go_ret
            exact ⟨H8.out.2, .inr (.inr ⟨5, _, rfl, H8.out.1, OpR.yes HS.out HJ.out rfl HD.out⟩)⟩
          · have qd : ((s.extract 0 j).toList == [(36 : UInt8)]) = false := by
              cases hx : ((s.extract 0 j).toList == [(36 : UInt8)])
              · rfl
              · exfalso
                apply hd
                rw [beq_iff_eq, ByteArray.toList_eq] at hx
                exact bytes_ext hx
            have HD := Lib.hid (show (12 : Int) = if s.extract 0 j = dollarT then 5 else 12 by rw [if_neg hd])
            clear hd
            go_wp2_with fail
            go_quiet ((fail))
            have HV2 := Lib.hid (HV.out.below (below_drewB (Below.refl _ _) nq))
            clear HV c2 c6 c10
            go_wp2_with fail
            refine (emitTok_any b s f g src j 12 hs (by omega) _ HV2.out.1).mono ?_
            rintro e8 w8 ⟨rfl, htk, hg8⟩
            have H8 := Lib.hid (And.intro htk (grown_trans HV2.out.2 hg8))
            clear htk hg8
            go_wp2_with fail
            go_ret
            exact ⟨H8.out.2, .inr (.inr ⟨12, _, rfl, H8.out.1, OpR.yes HS.out HJ.out rfl HD.out⟩)⟩
    · have hgo := HSt.out.2.1 t ht1 (by omega)
      obtain ⟨g1, g2, g3, g4, g5, g6⟩ := goI_yes hgo
      have hrv : rv = (by_ s t : Int) := by rw [HR.out, g3]
      rw [← HR.out] at g4
      subst hrv
      obtain ⟨l1, l2, l3⟩ := opB_low g2
      have HL1 := Lib.hid l1
      have HL2 := Lib.hid l2
      have HBB := Lib.hid g6
      have HG4 := Lib.hid g4
      have c2 := HI.out.1.c2
      have c10 := HI.out.1.c10
      have i0 : (0 : Int) ≤ (t : Int) := by omega
      have i1 : (t : Int) ≤ (s.size : Int) := by omega
      have hip := HI.out.pos
      have HIP := Lib.hid hip
      have q47 : (((by_ s t : Nat) : Int) == 47) = false := by simp; omega
      clear g2 g3 g4 g5 g6 l1 l2 l3 HR hip hgo
      go_wp2_with fail
      refine (isSym_any _ _).mono ?_
      rintro e5 w5 ⟨rfl, rfl⟩
      rw [HG4.out]
      by_cases h124 : by_ s t = 124
      · have q124 : (((by_ s t : Nat) : Int) == 124) = true := by simp; omega
        clear h124
        go_wp2_with fail
        go_quiet ((fail))
        have HIq := Lib.hid (HI.out.below (below_drewB (Below.refl _ _) nq))
        generalize wr.drewN nq = wq at HIq ⊢
        go_wp2_with fail
        go_quiet ((fail))
        have HIp := Lib.hid (HIq.out.below (below_drewB (Below.refl _ _) nq))
        clear HI HIq c2 c10
        generalize wq.drewN nq = wp at HIp ⊢
        have c2 := HIp.out.1.c2
        have c10 := HIp.out.1.c10
        have KP := Lib.hid (fun y : Later wp => pre_rest1 s ⟨#[124, 124]⟩ t hs (by show 2 ≤ _; omega) hts y.val)
        rw [HBB.out] at KP
        go_upto_region 108 with fail
        have k2 := fun y : Later wp => Later.cell c2 y
        have k10 := fun y : Later wp => Later.cell c10 y
        refine wp_region_later (by kernel_rfl) (by kernel_rfl) ?_
        repeat (go_big_quiet_step (first | (go_at_call 75; exact later_call (KP.out _))))
        refine wpQuiet_nil ?_
        rintro w6 ⟨y, rfl⟩
        have HI6 := Lib.hid (HIp.out.below y.ok)
        clear KP k2 k10 c2 c10 HIp
        generalize y.val = w6 at HI6 ⊢
        go_wp2_with fail
        refine (HI6.out.nextC hs g1 HL1.out HL2.out HT.out hbl).mono ?_
        rintro e7 w7 ⟨rfl, h7⟩
        have H7 := Lib.hid h7
        clear h7 HI6
        go_wp2_with fail
        refine (H7.out.peekC HT.out hbl).mono ?_
        rintro e8 w8 ⟨rfl, h8⟩
        have H8 := Lib.hid h8
        clear h8 H7
        go_wp2_with fail
        go_roundw
        case rel => exact ⟨t + 1, _, rfl, by omega, by omega, Lib.hid rfl, H8⟩
        case measure => rw [H8.out.pos, HIP.out]; omega
      · have q124 : (((by_ s t : Nat) : Int) == 124) = false := by simp; omega
        clear h124
        go_wp2_with fail
        go_quiet ((fail))
        have HIq := Lib.hid (HI.out.below (below_drewB (Below.refl _ _) nq))
        generalize wr.drewN nq = wq at HIq ⊢
        go_wp2_with fail
        go_quiet ((fail))
        have HIp := Lib.hid (HIq.out.below (below_drewB (Below.refl _ _) nq))
        clear HI HIq c2 c10
        generalize wq.drewN nq = wp at HIp ⊢
        have c2 := HIp.out.1.c2
        have c10 := HIp.out.1.c10
        go_wp2_with fail
        go_quiet ((fail))
        have HI6 := Lib.hid (HIp.out.below (below_drewB (Below.refl _ _) nq))
        clear HIp c2 c10
        generalize wp.drewN nq = w6 at HI6 ⊢
        go_wp2_with fail
        refine (HI6.out.nextC hs g1 HL1.out HL2.out HT.out hbl).mono ?_
        rintro e7 w7 ⟨rfl, h7⟩
        have H7 := Lib.hid h7
        clear h7 HI6
        go_wp2_with fail
        refine (H7.out.peekC HT.out hbl).mono ?_
        rintro e8 w8 ⟨rfl, h8⟩
        have H8 := Lib.hid h8
        clear h8 H7
        go_wp2_with fail
        go_roundw
        case rel => exact ⟨t + 1, _, rfl, by omega, by omega, Lib.hid rfl, H8⟩
        case measure => rw [H8.out.pos, HIP.out]; omega
end Go.Proofs.YtpgmnggicmbacaaDoor
