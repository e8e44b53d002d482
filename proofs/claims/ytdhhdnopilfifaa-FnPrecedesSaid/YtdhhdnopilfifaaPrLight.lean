/-
  weight, tangled, Light: some answer, of a tree whose sizes fit.
-/
import Derived.Test.YtdhhdnopilfifaaPrRight
import Derived.Deep.CutBlock
namespace Go.Proofs.Ytdhhdnopilfifaa
open Go.RowKit

def NPost (w : World) (e : Ending) (w' : World) : Prop := (∃ r : Int, e = .returned (.int .i64 r)) ∧ Below w.heap.size w w'
theorem NPost.ok {w w' : World} {v : Value} {r : Int} (h : v = .int .i64 r) (hb : Below w.heap.size w w') : NPost w (.returned v) w' := ⟨⟨r, by rw [h]⟩, hb⟩
set_option maxRecDepth 100000 in
set_option maxHeartbeats 3200000 in
theorem weight_any (A : Option Addr) (n c : Nat) (es : List ND) (kl : Nat → List Nat) (hT : Tree es kl) (B : Nat) (hn : n ≤ 1000000) : ∀ (fuel at_ : Nat) (w : World), Nodes w B A n es → B ≤ w.heap.size → at_ < n → n - at_ ≤ fuel →
    Calls Try.prog 19 #[.slice A n c, .int .i64 at_] w (NPost w)
  | 0, at_, w, h, hB, h1, hf => absurd hf (by omega)
  | fuel + 1, at_, w, h, hB, h1, hf => by
    have IH := Lib.hid (weight_any A n c es kl hT B hn fuel)
    have HH := Lib.hid h
    have hlen : es.length = n := h.1
    have hfit := hT at_ (by omega)
    have K := Lib.hid (Kids_any A n c es B w h hB hn at_ (kl at_) hfit)
    have hmem : ∀ k ∈ kl at_, at_ < k ∧ k < n := by
      obtain ⟨x, hx, g1, g2, g3⟩ := hfit
      intro k hk
      have := g3.mem k hk
      omega
    have hll : (kl at_).length ≤ 1000000 := by
      obtain ⟨x, hx, g1, g2, g3⟩ := hfit
      have := g3.len
      omega
    have HM := Lib.hid hmem
    clear h hfit hmem
    go_enter Try.func19, Try.ntmps19
    go_wp2_with fail
    refine K.out.mono ?_
    rintro e1 w1 ⟨⟨A2, c2, rfl, hrow⟩, hb1⟩
    have HKO := Lib.hid (KidsOK.own hrow (fun k hk => (HM.out k hk).2) hll)
    have HB1 := Lib.hid hb1
    clear hrow hb1 K
    generalize kl at_ = l at *
    go_wp2_with fail
    go_loopw [6, 7, 8, 9, 10] (fun u6 u7 u8 t _ wr => ∃ (j : Nat) (a b d : Int), j ≤ l.length ∧ u6 = .int .i64 a ∧ u7 = .int .i64 b ∧ u8 = .int .i64 d ∧ t = .int .i64 j ∧ Hid (Below w1.heap.size w1 wr)) (fun _ _ _ t _ _ => l.length - (intOf t).toNat)
    case atStart => exact ⟨0, _, _, _, Nat.zero_le _, rfl, rfl, rfl, rfl, Lib.hid (Below.refl _ _)⟩
    case round =>
      obtain ⟨j, a, b, d, hj, rfl, rfl, rfl, rfl, HB⟩ := hrel
      have HBW := Lib.hid (HB1.out.trans (HB.out.mono HB1.out.size))
      by_cases hlt : j < l.length
      · have hg := List.getElem?_eq_getElem hlt
        have hm := List.getElem_mem hlt
        generalize l[j] = k at *
        obtain ⟨hk1, hk2⟩ := HM.out k hm
        obtain ⟨g, off, rfl, hgl, hc, -⟩ := (HKO.out.below HB.out).cell hg
        have KR := Lib.hid (IH.out k wr (HH.out.below HBW.out hB) (Nat.le_trans hB HBW.out.size) hk2 (by omega))
        clear hg hm
        go_wp2_with fail
        refine KR.out.mono ?_
        rintro e2 w2 ⟨⟨r, rfl⟩, hb2⟩
        have HB2 := Lib.hid (HB.out.trans (hb2.mono HB.out.size))
        have hc2 := (hb2.cell (p := ⟨g, off + j, none⟩) hgl).trans hc
        obtain ⟨bb, o, e, rfl, hbb, hek, c0, -⟩ := (HH.out.below (HBW.out.trans (hb2.mono HBW.out.size)) hB).at_ hk2
        clear hb2 hek
        cases q36 : (e.kind == 36) <;> cases q35 : (e.kind == 35) <;> cases q37 : (e.kind == 37)
        all_goals
          generalize e.kind = ek at *
          go_wp2_with fail
          go_roundw
          case rel => exact ⟨j + 1, _, _, _, by omega, rfl, rfl, rfl, by go_num, HB2⟩
          case measure => simp [intOf]; omega
      · obtain rfl : j = l.length := by omega
        go_wp2_with fail
        all_goals
          go_ret
          exact NPost.ok rfl HBW.out
set_option maxRecDepth 100000 in
set_option maxHeartbeats 3200000 in
theorem tangled_any (A : Option Addr) (n c : Nat) (es : List ND) (kl : Nat → List Nat) (hT : Tree es kl) (B : Nat) (hn : n ≤ 1000000) : ∀ (fuel at_ : Nat) (dp : Int) (w : World), Nodes w B A n es → B ≤ w.heap.size → at_ < n → n - at_ ≤ fuel →
    Calls Try.prog 20 #[.slice A n c, .int .i64 at_, .int .i64 dp] w (NPost w)
  | 0, at_, dp, w, h, hB, h1, hf => absurd hf (by omega)
  | fuel + 1, at_, dp, w, h, hB, h1, hf => by
    have IH := Lib.hid (tangled_any A n c es kl hT B hn fuel)
    have HH := Lib.hid h
    have hlen : es.length = n := h.1
    have hfit := hT at_ (by omega)
    have K := Lib.hid (fun (w' : World) (hb : Below w.heap.size w w') => Kids_any A n c es B w' (h.below hb hB) (Nat.le_trans hB hb.size) hn at_ (kl at_) hfit)
    have hmem : ∀ k ∈ kl at_, at_ < k ∧ k < n := by
      obtain ⟨x, hx, g1, g2, g3⟩ := hfit
      intro k hk
      have := g3.mem k hk
      omega
    have hll : (kl at_).length ≤ 1000000 := by
      obtain ⟨x, hx, g1, g2, g3⟩ := hfit
      have := g3.len
      omega
    have HM := Lib.hid hmem
    obtain ⟨bb, o, e, rfl, hbb, hek, c0, cop, ctx, cfl, csz⟩ := h.at_ h1
    obtain ⟨W1, hW1, hb0, hs0, x0, x1, x2, x3, x4⟩ := box_facts e w
    have HB0 := Lib.hid hb0
    clear h hfit hmem hek hb0
    go_enter Try.func20, Try.ntmps20
    go_upto_region 2 with fail
    go_cut [8] (fun s8 wx => ∃ bm : Bool, s8 = .bool bm ∧ wx = W1)
    case first =>
      cases q35 : (e.kind == 35)
      · cases q32 : (e.kind == 32)
        · go_wp2_with fail
          go_meet
          exact ⟨_, rfl, by first | rfl | trivial⟩
        · cases qf : (e.flag == 1)
          · go_wp2_with fail
            go_meet
            exact ⟨_, rfl, by first | rfl | trivial⟩
          · go_wp2_with fail
            go_meet
            exact ⟨_, rfl, by first | rfl | trivial⟩
      · have q32 : (e.kind == 32) = false := by
          have : e.kind = 35 := by simpa using q35
          rw [this]; rfl
        cases qa : (bits BinOp.and IntKind.i64 e.flag 8 != 0)
        · go_wp2_with fail
          go_meet
          exact ⟨_, rfl, by first | rfl | trivial⟩
        · go_wp2_with fail
          go_meet
          exact ⟨_, rfl, by first | rfl | trivial⟩
    case rest =>
      obtain ⟨bm, rfl, hwc⟩ := hcut
      have hwc' := hwc.symm
      subst hwc'
      go_upto_region 3 with fail
      go_cut [44] (fun s44 wx => ∃ b : Bool, s44 = .bool b ∧ wx = W1)
      case first =>
        cases q36 : (e.kind == 36)
        · by_cases qd : 0 < dp
          · cases bm
            · go_wp2_with fail
              go_meet
              exact ⟨_, rfl, by first | rfl | trivial⟩
            · go_wp2_with fail
              go_meet
              exact ⟨_, rfl, by first | rfl | trivial⟩
          · go_wp2_with fail
            go_meet
            exact ⟨_, rfl, by first | rfl | trivial⟩
        · go_wp2_with fail
          go_meet
          exact ⟨_, rfl, by first | rfl | trivial⟩
      case rest =>
        obtain ⟨b44, rfl, hwc⟩ := hcut
        have hwc' := hwc.symm
        subst hwc'
        go_upto_if 44 with fail
        go_cut [2] (fun s2 wx => ∃ dq : Int, s2 = .int .i64 dq ∧ wx = W1)
        case first =>
          cases b44
          · go_wp2_with fail
            go_meet
            exact ⟨_, rfl, by first | rfl | trivial⟩
          · go_wp2_with fail
            go_meet
            exact ⟨_, rfl, by first | rfl | trivial⟩
        case rest =>
          obtain ⟨dq, rfl, hwc⟩ := hcut
          have hwc' := hwc.symm
          subst hwc'
          have K2 := Lib.hid (K.out W1 HB0.out)
          clear hW1 x0 x1 x2 x3 x4 c0 cop ctx cfl csz
          go_wp2_with fail
          refine K2.out.mono ?_
          rintro e1 w1 ⟨⟨A2, c2, rfl, hrow⟩, hb1⟩
          have HKO := Lib.hid (KidsOK.own hrow (fun k hk => (HM.out k hk).2) hll)
          have HB1 := Lib.hid (HB0.out.trans (hb1.mono HB0.out.size))
          clear hrow hb1 K K2
          generalize kl at_ = l at *
          go_wp2_with fail
          go_loopw [9, 11] (fun u9 t wr => ∃ (j : Nat) (a : Int), j ≤ l.length ∧ u9 = .int .i64 a ∧ t = .int .i64 j ∧ Hid (Below w1.heap.size w1 wr)) (fun _ t _ => l.length - (intOf t).toNat)
          case atStart => exact ⟨0, _, Nat.zero_le _, rfl, rfl, Lib.hid (Below.refl _ _)⟩
          case round =>
            obtain ⟨j, a, hj, rfl, rfl, HB⟩ := hrel
            have HBW := Lib.hid (HB1.out.trans (HB.out.mono HB1.out.size))
            by_cases hlt : j < l.length
            · have hg := List.getElem?_eq_getElem hlt
              have hm := List.getElem_mem hlt
              generalize l[j] = k at *
              obtain ⟨hk1, hk2⟩ := HM.out k hm
              obtain ⟨g, off, rfl, hgl, hc, -⟩ := (HKO.out.below HB.out).cell hg
              have KR := Lib.hid (IH.out k dq wr (HH.out.below HBW.out hB) (Nat.le_trans hB HBW.out.size) hk2 (by omega))
              clear hg hm
              go_wp2_with fail
              refine KR.out.mono ?_
              rintro e2 w2 ⟨⟨r, rfl⟩, hb2⟩
              have HB2 := Lib.hid (HB.out.trans (hb2.mono HB.out.size))
              clear hb2
              go_wp2_with fail
              all_goals
                go_roundw
                case rel => exact ⟨j + 1, _, by omega, rfl, by go_num, HB2⟩
                case measure => simp [intOf]; omega
            · obtain rfl : j = l.length := by omega
              go_wp2_with fail
              go_ret
              exact NPost.ok rfl HBW.out
end Go.Proofs.Ytdhhdnopilfifaa
