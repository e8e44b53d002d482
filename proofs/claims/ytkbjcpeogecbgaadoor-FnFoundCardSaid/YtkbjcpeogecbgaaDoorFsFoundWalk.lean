/-
  FnFound, walked: it answers true.
-/
import Derived.Test.YtkbjcpeogecbgaaDoorFsPart
import Derived.Test.YtkbjcpeogecbgaaDoorFsMadeBy
import Derived.Test.YtkbjcpeogecbgaaDoorFsGuard
namespace Go.Proofs.YtkbjcpeogecbgaaDoor
open Go.RowKit Go.Maps

def isAmid (l : List SN) (k : Nat) (s : ByteArray) : Prop := ∃ i x, i < k ∧ l[i]? = some x ∧ x.1 = s
theorem want_next {l : List SN} {k : Nat} {s : ByteArray} {x : SN} {b b' : Bool} (hx : l[k]? = some x) (h : b = true ↔ isAmid l k s) (hb : b' = (b || decide (x.1 = s))) : b' = true ↔ isAmid l (k + 1) s := by
  subst hb
  rw [Bool.or_eq_true, h, decide_eq_true_eq]
  constructor
  · rintro (⟨i, y, h1, h2, h3⟩ | h)
    · exact ⟨i, y, by omega, h2, h3⟩
    · exact ⟨k, x, by omega, hx, h⟩
  · rintro ⟨i, y, h1, h2, h3⟩
    rcases Nat.lt_or_ge i k with h4 | h4
    · exact .inl ⟨i, y, h4, h2, h3⟩
    · obtain rfl : i = k := by omega
      rw [hx] at h2
      cases h2
      exact .inr h3
def YesPost (w : World) (e : Ending) (w' : World) : Prop := e = .returned (.bool true) ∧ Below w.heap.size w w'
def WI (w4 wr : World) (out : List SN) (s : ByteArray) (k : Nat) (b : Bool) : Prop := (b = true ↔ isAmid out k s) ∧ Below w4.heap.size w4 wr

set_option maxRecDepth 100000 in
set_option maxHeartbeats 3200000 in
theorem fnFound_walk (A : Option Addr) (n c : Nat) (es : List FE) (s : ByteArray) (hs : s.size ≤ maxLen) (B : Nat) (w : World) (h : FSteps w B A n es) (hB : B ≤ w.heap.size) (hn : n ≤ maxLen) (hso : SoundF es) (hT : Lib.Utf8Tabs 0 1 w) :
    Calls Tryd.prog 3 #[.slice A n c, .string s] w (YesPost w) := by
  have K1 := Lib.hid (zzFits11_any A n c es B w h hB hn hso)
  have HH := Lib.hid h
  have HL := Lib.hid h.1
  have HZ := Lib.hid hso
  have HT := Lib.hid hT
  have HS := Lib.hid hs
  clear h hso hT
  unfold maxLen at hs
  go_enter Tryd.func3, Tryd.ntmps3
  go_wp2_with fail
  refine K1.out.mono ?_
  rintro e1 w1 ⟨⟨b1, rfl, -⟩, hb1⟩
  have HB1 := Lib.hid hb1
  clear hb1 K1
  cases b1
  · go_wp2_with fail
    go_ret
    exact ⟨rfl, HB1.out⟩
  · by_cases hbig : 2147483647 < s.size
    · go_wp2_with fail
      go_ret
      exact ⟨rfl, HB1.out⟩
    · have hB1' : B ≤ w1.heap.size := Nat.le_trans hB HB1.out.size
      have K2 := Lib.hid (fewSteps_any A n c es B w1 (HH.out.below HB1.out hB) hB1' hn HZ.out (Utf8Tabs_below HT.out HB1.out))
      go_wp2_with fail
      refine K2.out.mono ?_
      rintro e2 w2 ⟨⟨b2, rfl, hg2⟩, hb2⟩
      have HB2 := Lib.hid (HB1.out.trans (hb2.mono HB1.out.size))
      have HG2 := Lib.hid hg2
      clear hb2 hg2 K2
      cases b2
      · go_wp2_with fail
        go_ret
        exact ⟨rfl, HB2.out⟩
      · have hn12 := (HG2.out (by trivial)).1
        have HOK := Lib.hid (HG2.out (by trivial)).2
        go_wp2_with fail
        go_loopw [5] (fun t wr => ∃ k : Nat, k ≤ n ∧ t = .int .i64 k ∧ wr = w2 ∧ Hid (∀ i e, i < k → es[i]? = some e → e.is = false)) (fun t _ => n - (intOf t).toNat)
        case atStart => exact ⟨0, Nat.zero_le _, rfl, (by first | rfl | trivial), Lib.hid (fun i e hi _ => by omega)⟩
        case round =>
          obtain ⟨k, hk, rfl, rfl, HA⟩ := hrel
          by_cases hlt : k < n
          · obtain ⟨b, o, e, rfl, hbb, hek, hstr, hints, c0, c1, c2, c3⟩ := (HH.out.below HB2.out hB).at_ hlt
            have HE := Lib.hid hek
            clear hek hstr hints c1 c2 c3
            cases hei : e.is
            · rw [hei] at c0
              go_wp2_with fail
              go_roundw
              case rel => exact ⟨k + 1, by omega, by go_num, by trivial, Lib.hid (fun i e' hi he => by
                rcases Nat.lt_or_ge i k with h1 | h1
                · exact HA.out i e' h1 he
                · obtain rfl : i = k := by omega
                  have := HE.out.symm.trans he
                  cases this
                  exact hei)⟩
              case measure => simp [intOf]; omega
            · rw [hei] at c0
              go_wp2_with fail
              go_ret
              exact ⟨rfl, HB2.out⟩
          · obtain rfl : k = n := by omega
            have hall : ∀ e ∈ es, OkF e ∧ e.is = false := fun e he => ⟨HOK.out e he, by
              obtain ⟨j, hj, rfl⟩ := List.getElem_of_mem he
              exact HA.out j _ (by rw [← HL.out]; exact hj) (List.getElem?_eq_getElem hj)⟩
            have hB2' : B ≤ wr.heap.size := Nat.le_trans hB HB2.out.size
            have K3 := Lib.hid (Find_any A k c es s HS.out B wr (HH.out.below HB2.out hB) hB2' hn12 hall HZ.out)
            have HALL := Lib.hid hall
            clear hall
            go_wp2_with fail
            refine K3.out.mono ?_
            rintro e3 w3 ⟨⟨f, ct, dp, rfl, hf, hc1, hc2⟩, hb3⟩
            have HB3 := Lib.hid (HB2.out.trans (hb3.mono HB2.out.size))
            have HF := Lib.hid hf
            have HC2 := Lib.hid hc2
            clear hb3 hf hc2 K3
            have K4 := Lib.hid (MadeBy_any A k c es B w3 (HH.out.below HB3.out hB) (Nat.le_trans hB HB3.out.size) hn12 HALL.out)
            go_wp2_with fail
            refine K4.out.mono ?_
            rintro e4 w4 ⟨⟨A4, c4, out, rfl, h4, h5, h6⟩, hb4⟩
            have HB4 := Lib.hid (HB3.out.trans (hb4.mono HB3.out.size))
            have H4 := Lib.hid h4
            have H6 := Lib.hid h6
            clear hb4 h4 h6 K4
            go_wp2_with fail
            go_loopw [10, 46] (fun u t wx => ∃ k : Nat, k ≤ out.length ∧ t = .int .i64 k ∧ ∃ b : Bool, u = .bool b ∧ Hid (WI w4 wx out s k b)) (fun _ t _ => out.length - (intOf t).toNat)
            case atStart =>
              refine ⟨0, Nat.zero_le _, rfl, false, rfl, Lib.hid ⟨⟨fun h => Bool.noConfusion h, ?_⟩, Below.refl _ _⟩⟩
              rintro ⟨i, _, h, _⟩
              omega
            case round =>
              obtain ⟨k, hk, rfl, wb, rfl, HW⟩ := hrel
              by_cases hlt2 : k < out.length
              · obtain ⟨b, o, x, rfl, hbb, hxk, c0, c1⟩ := (H4.out.below HW.out.2 (Nat.le_refl _)).at_ hlt2
                have HX := Lib.hid hxk
                clear hxk
                obtain ⟨xn, xh⟩ := x
                simp only at c0 c1
                have hz : (wr.alloc (.cells #[.string xn, .int .i64 xh] 33)).cell? ⟨wr.heap.size, 0, none⟩ = some (.string xn) := by simp
                by_cases he : xn = s
                · have q1 : (xn.toList == s.toList) = true := by rw [str_beq]; exact decide_eq_true he
                  cases wb
                  all_goals
                    go_wp2_with fail
                    go_roundw
                    case rel => exact ⟨k + 1, by omega, by go_num, true, rfl, Lib.hid ⟨want_next HX.out HW.out.1 (by simp [he]), HW.out.2.alloc HW.out.2.size _⟩⟩
                    case measure => simp [intOf]; omega
                · have q1 : (xn.toList == s.toList) = false := by rw [str_beq]; exact decide_eq_false he
                  cases wb
                  all_goals
                    go_wp2_with fail
                    go_roundw
                    case rel => exact ⟨k + 1, by omega, by go_num, _, rfl, Lib.hid ⟨want_next HX.out HW.out.1 (by simp [he]), HW.out.2.alloc HW.out.2.size _⟩⟩
                    case measure => simp [intOf]; omega
              · obtain rfl : k = out.length := by omega
                have hfw : f = true ↔ wb = true := by
                  rw [HF.out, HW.out.1, ← H6.out]
                  constructor
                  · rintro ⟨x, hx, hxs⟩
                    obtain ⟨i, hi, rfl⟩ := List.getElem_of_mem hx
                    exact ⟨i, _, hi, List.getElem?_eq_getElem hi, hxs⟩
                  · rintro ⟨i, x, _, hx, hxs⟩
                    exact ⟨x, List.mem_of_getElem? hx, hxs⟩
                have HBW := Lib.hid (HB4.out.trans (HW.out.2.mono HB4.out.size))
                clear HW HF
                cases f <;> cases wb <;> first | (exfalso; simp at hfw; done) | skip
                · go_wp2_with fail
                  go_ret
                  exact ⟨rfl, HBW.out⟩
                · have hlt3 := HC2.out (by trivial)
                  go_wp2_with fail
                  go_ret
                  exact ⟨rfl, HBW.out⟩
end Go.Proofs.YtkbjcpeogecbgaaDoor
