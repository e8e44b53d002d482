/-
  The language's lexer reads an operator.
-/
import Derived.Test.YtpgmnggicmbacaaDoorSyAdd
import Derived.Deep.CutBlock
namespace Go.Proofs.YtpgmnggicmbacaaDoor
open Go.Shelf Go.RowKit
set_option linter.unusedVariables false
set_option linter.unusedSimpArgs false

def opsT : ByteArray := ⟨#[33, 36, 58, 126, 43, 45, 38, 124, 94, 61, 60, 62, 42, 47, 37]⟩
def windT : ByteArray := ⟨#[43, 45, 126, 33, 36]⟩
theorem hasQ_ops : ∀ c : Fin 256, hasQ opsT c.val = opB c.val := by decide +kernel
theorem hasQ_wind : ∀ c : Fin 256, hasQ windT c.val = windB c.val := by decide +kernel
theorem goS_all {s : ByteArray} {i : Nat} : goS (by_ s) s.size i = (decide (i < s.size) && hasQ opsT (by_ s i) && !stG s ⟨#[47, 47]⟩ i && !stG s ⟨#[47, 42]⟩ i && !stG s ⟨#[124, 124, 124]⟩ i) := by
  have h1 := stG2 s i 47 47 (by omega) (by omega)
  have h2 := stG2 s i 47 42 (by omega) (by omega)
  have h3 := stG3 s i
  rw [show (⟨#[UInt8.ofNat 47, UInt8.ofNat 47]⟩ : ByteArray) = ⟨#[47, 47]⟩ from rfl] at h1
  rw [show (⟨#[UInt8.ofNat 47, UInt8.ofNat 42]⟩ : ByteArray) = ⟨#[47, 42]⟩ from rfl] at h2
  rw [h1, h2, h3, hasQ_ops ⟨by_ s i, by_lt s i⟩]
  rfl
/-- What makes an operator unsure, up to a place. -/
def oddUp (b : Nat → Nat) (t n : Nat) : Bool := (List.range n).any fun i => decide (1 ≤ i) && odd1 b t i
theorem oddUp_succ (b : Nat → Nat) (t n : Nat) (h : 1 ≤ n) : oddUp b t (n + 1) = (oddUp b t n || odd1 b t n) := by
  unfold oddUp
  rw [List.range_succ, List.any_append]
  simp [h]
theorem oddUp_false {b : Nat → Nat} {t n : Nat} (h : oddUp b t n = false) : ∀ i, 1 ≤ i → i < n → odd1 b t i = false := by
  intro i h1 h2
  unfold oddUp at h
  rw [List.any_eq_false] at h
  have := h i (by simpa using h2)
  simpa [h1] using this
/-- What the operator's reading leaves. -/
def OrPost (b : Nat) (s : ByteArray) (bad : Bool) (w : World) (e : Ending) (w' : World) : Prop :=
  NoResS e ∧ ∃ (all t g cap : Nat) (u : Bool), Stop (goS (by_ s) s.size) all ∧ Wound (by_ s) all t ∧ (u = false → (∀ i, 1 ≤ i → i < all → odd1 (by_ s) all i = false) ∧ (t = all ∨ t = 1)) ∧
    Lx w' b s t (.slice (some ⟨g, 0, none⟩) 1 cap) bad u ∧ TkAt w' g 6 0 (s.extract 0 t) ⟨#[]⟩ 0 t ∧ w.grownBy w' (some b)
set_option maxRecDepth 100000 in
set_option maxHeartbeats 6400000 in
theorem operator_any (b : Nat) (s : ByteArray) (bad uns : Bool) (hs : s.size ≤ 1000000) (h0 : 0 < s.size) (w : World) (h : Lx w b s 0 (.slice none 0 0) bad uns) :
    Calls Tryd.prog 56 #[.pointer (some ⟨b, 0, none⟩)] w (OrPost b s bad w) := by
  have H0 := Lib.hid (show GpI b s (.slice none 0 0) uns w w 0 bad from ⟨h, grown_below (Below.refl _ _) _⟩)
  have c0 := h.c0
  have c1 := h.c1
  have KI := Lib.hid (fun (c : Nat) (w' : World) => isIn_any c opsT (by show 15 ≤ _; omega) w')
  have KS := Lib.hid (fun (t : ByteArray) (ht : t.size ≤ 3) (i : Nat) (hi : i ≤ s.size) (w' : World) => startsG s t i (by omega) (by omega) (by omega) w')
  clear h
  go_enter Tryd.func56, Tryd.ntmps56
  go_upto_block 0 with fail
  go_cut [2] (fun s2 wx => ∃ all : Nat, s2 = .int .i64 all ∧ wx = w ∧ Hid (Stop (goS (by_ s) s.size) all) ∧ all ≤ s.size)
  case first =>
    go_wp2_with fail
    go_loopw [2] (fun t wr => ∃ k : Nat, t = .int .i64 k ∧ 1 ≤ k ∧ k ≤ s.size ∧ wr = w ∧ Hid (∀ i, 1 ≤ i → i < k → goS (by_ s) s.size i = true)) (fun t _ => s.size - (intOf t).toNat)
    case atStart => exact ⟨1, rfl, Nat.le_refl _, h0, rfl, Lib.hid fun i h1 h2 => absurd h1 (by omega)⟩
    case round =>
      obtain ⟨k, rfl, hk1, hk, rfl, HK⟩ := hrel
      go_upto_region 1 with fail
      go_cut [52] (fun s52 wx => s52 = .bool (goS (by_ s) s.size k) ∧ wx = wr)
      case first =>
        have G := Lib.hid (goS_all (s := s) (i := k))
        by_cases hlt : k < s.size
        · have hd := by_eq hlt
          have z0 : (k : Int) < (s.size : Int) := by omega
          have z1 : (0 : Int) ≤ (k : Int) := by omega
          have HD := Lib.hid (show (decide (k < s.size)) = true by simpa using hlt)
          have HE := Lib.hid hd
          clear hd
          go_wp2_with fail
          refine (KI.out _ _).mono ?_
          rintro e1 w1 ⟨rfl, rfl⟩
          rw [HE.out]
          rcases hv1 : hasQ opsT (by_ s k) with _ | _
          · have V1 := Lib.hid hv1
            clear hv1
            go_wp2_with fail
            go_meet
            exact ⟨congrArg Value.bool (by rw [G.out, V1.out]; simp), rfl⟩
          · have V1 := Lib.hid hv1
            clear hv1
            go_wp2_with fail
            refine (KS.out _ (by show 2 ≤ _; omega) k hk _).mono ?_
            rintro e2 w2 ⟨rfl, rfl⟩
            rcases hv2 : stG s ⟨#[47, 47]⟩ k with _ | _
            · have V2 := Lib.hid hv2
              clear hv2
              go_wp2_with fail
              refine (KS.out _ (by show 2 ≤ _; omega) k hk _).mono ?_
              rintro e3 w3 ⟨rfl, rfl⟩
              rcases hv3 : stG s ⟨#[47, 42]⟩ k with _ | _
              · have V3 := Lib.hid hv3
                clear hv3
                go_wp2_with fail
                refine (KS.out _ (by show 3 ≤ _; omega) k hk _).mono ?_
                rintro e4 w4 ⟨rfl, rfl⟩
                rcases hv4 : stG s ⟨#[124, 124, 124]⟩ k with _ | _
                all_goals
                  have V4 := Lib.hid hv4
                  clear hv4
                  go_wp2_with fail
                  go_meet
                  exact ⟨congrArg Value.bool (by rw [G.out, V1.out, V2.out, V3.out, V4.out, HD.out]; rfl), rfl⟩
              · have V3 := Lib.hid hv3
                clear hv3
                go_wp2_with fail
                go_meet
                exact ⟨congrArg Value.bool (by rw [G.out, V3.out]; simp), rfl⟩
            · have V2 := Lib.hid hv2
              clear hv2
              go_wp2_with fail
              go_meet
              exact ⟨congrArg Value.bool (by rw [G.out, V2.out]; simp), rfl⟩
        · have z0 : ¬ (k : Int) < (s.size : Int) := by omega
          have HD := Lib.hid (show (decide (k < s.size)) = false by simpa using hlt)
          go_wp2_with fail
          go_meet
          exact ⟨congrArg Value.bool (by rw [G.out, HD.out]; simp), rfl⟩
      case rest =>
        obtain ⟨rfl, rfl⟩ := hcut
        rcases hg : goS (by_ s) s.size k with _ | _
        · have HS := Lib.hid (show Stop (goS (by_ s) s.size) k from ⟨hk1, HK.out, hg⟩)
          clear hg
          go_wp2_with fail
          go_meet
          exact ⟨k, rfl, rfl, HS, hk⟩
        · have hlt : k < s.size := by
            have := hg
            unfold goS at this
            simp only [Bool.and_eq_true, decide_eq_true_eq] at this
            exact this.1.1.1.1
          have HN := Lib.hid (show ∀ i, 1 ≤ i → i < k + 1 → goS (by_ s) s.size i = true from fun i h1 h2 => by
            rcases Nat.lt_or_ge i k with g | g
            · exact HK.out i h1 g
            · obtain rfl : i = k := by omega
              exact hg)
          clear hg
          go_wp2_with fail
          go_roundw
          case rel => exact ⟨k + 1, by go_num, by omega, by omega, by trivial, HN⟩
          case measure => simp [intOf]; omega
  case rest =>
    obtain ⟨all, rfl, rfl, HS, hall⟩ := hcut
    obtain ⟨w0, hw0⟩ : ∃ w0, w0 = wc := ⟨_, rfl⟩
    subst hw0
    have ha1 : 1 ≤ all := HS.out.1
    go_wp2_with fail
    go_loopw [3] (fun i wr => ∃ (k : Nat) (u : Bool), i = .int .i64 k ∧ 1 ≤ k ∧ k ≤ all ∧ Hid (GpI b s (.slice none 0 0) u w0 wr 0 bad) ∧ Hid (u = (uns || oddUp (by_ s) all k))) (fun i _ => all - (intOf i).toNat)
    case atStart => exact ⟨1, uns, rfl, Nat.le_refl _, ha1, H0, Lib.hid (by simp [oddUp])⟩
    case round =>
      obtain ⟨k, u, rfl, hk1, hk, HI, HU⟩ := hrel
      have c0 := HI.out.1.c0
      have c1 := HI.out.1.c1
      have c5 := HI.out.1.c5
      have f5 := Blk.frozen HI.out.1 5
      by_cases hlt : k < all
      · have hks : k < s.size := by omega
        have z0 : (k : Int) < (all : Int) := by omega
        have z1 : (0 : Int) ≤ (k : Int) := by omega
        have z2 : (k : Int) < (s.size : Int) := by omega
        have HU2 := Lib.hid (show (u || odd1 (by_ s) all k) = (uns || oddUp (by_ s) all (k + 1)) by rw [HU.out, oddUp_succ _ _ _ hk1, Bool.or_assoc])
        have wr1 : IntKind.i64.wrap ((k : Int) + 1) = (k : Int) + 1 := IntWalk.i64_in _ (by omega)
        rcases u with _ | _
        · have hd := by_eq hks
          rcases h47 : ((by_ s k : Int) == 47) with _ | _
          · rcases h124 : ((by_ s k : Int) == 124) with _ | _
            · have HO := Lib.hid (show odd1 (by_ s) all k = false by
                have h1 : by_ s k ≠ 47 := by simp at h47; omega
                have h2 : by_ s k ≠ 124 := by simp at h124; omega
                unfold odd1
                simp [h1, h2])
              rw [← hd] at h47 h124
              clear hd
              go_wp2_with fail
              go_roundw
              case rel => exact ⟨k + 1, (_ || odd1 (by_ s) all k), by go_num, by omega, by omega, Lib.hid (HI.out.isUns (by rw [HO.out]; rfl)), HU2⟩
              case measure => simp [intOf]; omega
            · have hc : by_ s k = 124 := by simp at h124; omega
              by_cases hn : k + 1 < all
              · have z3 : (k : Int) + 1 < (all : Int) := by omega
                have z4 : (0 : Int) ≤ (k : Int) + 1 := by omega
                have z5 : (k : Int) + 1 < (s.size : Int) := by omega
                have hns : k + 1 < s.size := by omega
                have hd2 := by_eq hns
                rcases h3 : ((by_ s (k + 1) : Int) == 124) with _ | _
                all_goals
                  have HO := Lib.hid (show odd1 (by_ s) all k = ((by_ s (k + 1) : Int) == 124) by
                    unfold odd1
                    rw [hc]
                    simp [hn]
                    rw [Bool.eq_iff_iff]
                    simp
                    omega)
                  have H3 := Lib.hid h3
                  rw [← hd] at h47 h124
                  rw [← hd2] at h3
                  clear hd hd2 hc
                  go_wp2_with fail
                  go_roundw
                  case rel => exact ⟨k + 1, (_ || odd1 (by_ s) all k), by go_num, by omega, by omega, Lib.hid (HI.out.isUns (by rw [HO.out, H3.out]; rfl)), HU2⟩
                  case measure => simp [intOf]; omega
              · have z3 : ¬ (k : Int) + 1 < (all : Int) := by omega
                have HO := Lib.hid (show odd1 (by_ s) all k = false by
                  unfold odd1
                  rw [hc]
                  simp [hn])
                rw [← hd] at h47 h124
                clear hd hc
                go_wp2_with fail
                go_roundw
                case rel => exact ⟨k + 1, (_ || odd1 (by_ s) all k), by go_num, by omega, by omega, Lib.hid (HI.out.isUns (by rw [HO.out]; rfl)), HU2⟩
                case measure => simp [intOf]; omega
          · have HO := Lib.hid (show odd1 (by_ s) all k = true by
              have h1 : by_ s k = 47 := by simp at h47; omega
              unfold odd1
              simp [h1])
            rw [← hd] at h47
            clear hd
            go_wp2_with fail
            go_roundw
            case rel => exact ⟨k + 1, (_ || odd1 (by_ s) all k), by go_num, by omega, by omega, Lib.hid (HI.out.isUns (by rw [HO.out]; rfl)), HU2⟩
            case measure => simp [intOf]; omega
        · go_wp2_with fail
          go_roundw
          case rel => exact ⟨k + 1, (_ || odd1 (by_ s) all k), by go_num, by omega, by omega, Lib.hid (HI.out.isUns (by rfl)), HU2⟩
          case measure => simp [intOf]; omega
      · obtain rfl : k = all := by omega
        clear hlt hk1 hk
        go_upto_block 4 with fail
        go_cut [2] (fun s2 wx => ∃ t : Nat, s2 = .int .i64 t ∧ Hid (GpI b s (.slice none 0 0) u w0 wx 0 bad) ∧ Hid (Wound (by_ s) k t) ∧ t ≤ k)
        case first =>
          have HI0 := HI
          clear c0 c1 c5 f5 HI
          go_wp2_with fail
          go_loopw [2] (fun t wr => ∃ j : Nat, t = .int .i64 j ∧ 1 ≤ j ∧ j ≤ k ∧ Hid (GpI b s (.slice none 0 0) u w0 wr 0 bad) ∧ Hid (∀ i, j ≤ i → i < k → windB (by_ s i) = true)) (fun t _ => (intOf t).toNat)
          case atStart => exact ⟨k, rfl, ha1, Nat.le_refl _, HI0, Lib.hid fun i h1 h2 => absurd h1 (by omega)⟩
          case round =>
            clear HI0
            obtain ⟨j, rfl, hj1, hj, HI, HJ⟩ := hrel
            have c0 := HI.out.1.c0
            have c1 := HI.out.1.c1
            have wr1 : IntKind.i64.wrap ((j : Int) - 1) = (j : Int) - 1 := IntWalk.i64_in _ (by omega)
            by_cases hlt : 1 < j
            · have hjs : j - 1 < s.size := by omega
              have z0 : (1 : Int) < (j : Int) := by omega
              have z1 : (0 : Int) ≤ (j : Int) - 1 := by omega
              have z2 : (j : Int) - 1 < (s.size : Int) := by omega
              have ej : (j : Int) - 1 = ((j - 1 : Nat) : Int) := by omega
              have KW := Lib.hid (fun (c : Nat) (w' : World) => isIn_any c windT (by show 5 ≤ _; omega) w')
              go_wp2_with fail
              refine (KW.out _ _).mono ?_
              rintro e1 w1 ⟨rfl, rfl⟩
              rw [by_eq hjs, hasQ_wind ⟨_, by_lt s (j - 1)⟩]
              rcases hw : windB (by_ s (j - 1)) with _ | _
              · have HWd := Lib.hid (show Wound (by_ s) k j from ⟨hj1, hj, HJ.out, .inr hw⟩)
                clear hw
                go_wp2_with fail
                go_meet
                exact ⟨j, rfl, HI, HWd, hj⟩
              · have HN := Lib.hid (show ∀ i, j - 1 ≤ i → i < k → windB (by_ s i) = true from fun i h1 h2 => by
                  rcases Nat.lt_or_ge i j with g | g
                  · obtain rfl : i = j - 1 := by omega
                    exact hw
                  · exact HJ.out i g h2)
                clear hw
                go_wp2_with fail
                go_roundw
                case rel => exact ⟨j - 1, by go_num, by omega, by omega, HI, HN⟩
                case measure => simp [intOf]; omega
            · obtain rfl : j = 1 := by omega
              have HWd := Lib.hid (show Wound (by_ s) k 1 from ⟨Nat.le_refl _, hj, HJ.out, .inl rfl⟩)
              go_wp2_with fail
              go_meet
              exact ⟨1, rfl, HI, HWd, hj⟩
        case rest =>
          clear HI
          obtain ⟨t, rfl, HI, HWd, htk⟩ := hcut
          obtain ⟨w1, hw1⟩ : ∃ w1, w1 = wc := ⟨_, rfl⟩
          subst hw1
          have ht1 := HWd.out.1
          have c0 := HI.out.1.c0
          have c1 := HI.out.1.c1
          have c5 := HI.out.1.c5
          have f5 := Blk.frozen HI.out.1 5
          go_upto_region 10 with fail
          go_cut [144] (fun _ wx => Hid (GpI b s (.slice none 0 0) (u || (decide (t < k) && decide (1 < t))) w0 wx 0 bad))
          case first =>
            rcases u with _ | _
            · by_cases htk2 : t < k
              · have z0 : (t : Int) < (k : Int) := by omega
                by_cases h1t : 1 < t
                · have z1 : (1 : Int) < (t : Int) := by omega
                  have HB := Lib.hid (show (false || (decide (t < k) && decide (1 < t))) = true by simp [htk2, h1t])
                  go_wp2_with fail
                  go_meet
                  exact Lib.hid (HI.out.isUns (by rw [HB.out]))
                · have z1 : ¬ (1 : Int) < (t : Int) := by omega
                  have HB := Lib.hid (show (false || (decide (t < k) && decide (1 < t))) = false by simp [h1t])
                  go_wp2_with fail
                  go_meet
                  exact Lib.hid (HI.out.isUns (by rw [HB.out]))
              · have z0 : ¬ (t : Int) < (k : Int) := by omega
                have HB := Lib.hid (show (false || (decide (t < k) && decide (1 < t))) = false by simp [htk2])
                go_wp2_with fail
                go_meet
                exact Lib.hid (HI.out.isUns (by rw [HB.out]))
            · go_wp2_with fail
              go_meet
              exact Lib.hid (HI.out.isUns (by rfl))
          case rest =>
            have HI2 := hcut
            clear hcut HI c0 c1 c5 f5
            obtain ⟨u2, hu2⟩ : ∃ u2, u2 = (u || (decide (t < k) && decide (1 < t))) := ⟨_, rfl⟩
            rw [← hu2] at HI2
            have HU2 := Lib.hid hu2
            clear hu2
            obtain ⟨w2, hw2⟩ : ∃ w2, w2 = wc := ⟨_, rfl⟩
            subst hw2
            have c0 := HI2.out.1.c0
            have c1 := HI2.out.1.c1
            have z0 : (0 : Int) ≤ (t : Int) := by omega
            have z1 : (t : Int) ≤ (s.size : Int) := by omega
            go_upto_region 11 with fail
            go_region_law ((go_simp; go_at_call 53; refine (add_any b s bad u2 6 0 (s.extract 0 t) ⟨#[]⟩ 0 t w2.drew HI2.out.1).mono ?_; rintro e9 w9 ⟨rfl, g9, cap9, hL9, hT9, hG9⟩; have H9 := Lib.hid (And.intro hL9 (And.intro hT9 hG9)); clear hL9 hT9 hG9))
            all_goals
              go_wp2_with fail
              go_end0
              refine ⟨rfl, k, t, g9, cap9, u2, HS.out, HWd.out, ?_, H9.out.1, H9.out.2.1, grown_trans HI2.out.2 (grown_trans (grown_below (Below.refl _ _).drew _) H9.out.2.2)⟩
              intro hu
              have h1 := HU2.out
              rw [hu] at h1
              have h2 := HU.out
              cases u with
              | true => simp at h1
              | false =>
                have h3 : oddUp (by_ s) k k = false := by
                  cases hx : oddUp (by_ s) k k
                  · rfl
                  · rw [hx] at h2
                    simp at h2
                refine ⟨oddUp_false h3, ?_⟩
                simp at h1
                omega
end Go.Proofs.YtpgmnggicmbacaaDoor
