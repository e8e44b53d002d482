/-
  FnFieldsShown, walked: it answers true.
-/
import Derived.Test.YtkbjcpeogecbgaaDoorFvVisible
import Derived.Test.YtkbjcpeogecbgaaDoorFvSame
import Derived.Test.YtkbjcpeogecbgaaDoorFsGuard
namespace Go.Proofs.YtkbjcpeogecbgaaDoor
open Go.RowKit Go.Maps

def YesPost (w : World) (e : Ending) (w' : World) : Prop := e = .returned (.bool true) ∧ Below w.heap.size w w'
def mkB (l : List UInt8) : ByteArray := ⟨l.toArray⟩
theorem strs_own {w : World} {base n c : Nat} {A : Option Addr} {ts : List (List UInt8)} (h : w.ownsRow base 9 1 (.slice A n c) n (ts.map encStr)) : Strs w w.heap.size A n (ts.map mkB) := by
  have := Reads.of_own h
  unfold Strs
  rw [List.map_map]
  exact this
theorem mkB_inj {a b : List (List UInt8)} (h : a = b) : a.map mkB = b.map mkB := by rw [h]
/-- What the loop keeps. -/
def qF (V : ByteArray → Option Int) (x : List UInt8) : Bool := decide (hideV V x ≠ 1)
theorem seenI_one (c : Int) : seenI c = 1 ↔ c = 0 := by
  unfold seenI
  by_cases h : c = 0
  · simp [h]
  · rw [if_neg h]
    by_cases h2 : c = 2
    · simp [h2]
    · rw [if_neg h2]; simp [h]
theorem qF_of {V : ByteArray → Option Int} {x : List UInt8} {c : Int} (h : V ⟨x.toArray⟩ = some c) : qF V x = pF false c := by
  unfold qF pF hideV
  rw [h, Bool.false_or]
  show decide (seenI c ≠ 1) = decide (c ≠ 0)
  by_cases hc : c = 0
  · rw [decide_eq_false (fun h2 : seenI c ≠ 1 => h2 ((seenI_one c).2 hc)), decide_eq_false (fun h2 : c ≠ 0 => h2 hc)]
  · rw [decide_eq_true (show seenI c ≠ 1 from fun h2 => hc ((seenI_one c).1 h2)), decide_eq_true hc]
def wantK (V : ByteArray → Option Int) (ts : List (List UInt8)) (k : Nat) : List (List UInt8) := (ts.take k).filter (qF V)
theorem wantK_succ {V : ByteArray → Option Int} {ts : List (List UInt8)} {k : Nat} {x : List UInt8} (h : ts[k]? = some x) : wantK V ts (k + 1) = if qF V x then wantK V ts k ++ [x] else wantK V ts k := by
  unfold wantK
  rw [List.take_add_one, h, Option.toList_some, List.filter_append]
  cases hq : qF V x <;> simp [hq]
theorem wantK_len {V : ByteArray → Option Int} {ts : List (List UInt8)} {k : Nat} : (wantK V ts k).length ≤ k := by
  unfold wantK
  exact Nat.le_trans (List.length_filter_le _ _) (by rw [List.length_take]; exact Nat.min_le_left _ _)
def WkI (V : ByteArray → Option Int) (w wr : World) (u : Value) (ts : List (List UInt8)) (k : Nat) : Prop :=
  wr.ownsRow w.heap.size 9 1 u (wantK V ts k).length ((wantK V ts k).map encStr) ∧ Below w.heap.size w wr
theorem wkI_step {V : ByteArray → Option Int} {w wr w2 : World} {u : Value} {ts : List (List UInt8)} {k g2 cap2 : Nat} {x : List UInt8} {s : ByteArray} {ob : Obj} (h : WkI V w wr u ts k) (hx : ts[k]? = some x) (hq : qF V x = true) (hs : (⟨x.toArray⟩ : ByteArray) = s)
    (hown2 : w2.ownsRow w.heap.size 9 1 (.slice (some ⟨g2, 0, none⟩) ((wantK V ts k).length + 1) cap2) ((wantK V ts k).length + 1) ((wantK V ts k).map encStr ++ [.string s])) (hg : (wr.alloc ob).grownBy w2 u.ownBlock) :
    WkI V w w2 (.slice (some ⟨g2, 0, none⟩) ((wantK V ts k).length + 1) cap2) ts (k + 1) := by
  subst hs
  have h7 : (wr.alloc ob).heap.size = wr.heap.size + 1 := by simp
  have h8 := h.2.size
  unfold WkI
  rw [wantK_succ hx, if_pos hq, List.map_append, List.length_append]
  exact ⟨hown2, (h.2.alloc h.2.size ob).grown hg (by omega) (fun j hj => (h.1.lt j hj).1)⟩
set_option maxRecDepth 100000 in
set_option maxHeartbeats 3200000 in
theorem fnShown_walk (A : Option Addr) (n c : Nat) (es : List FE) (B : Nat) (w : World) (h : FSteps w B A n es) (hB : B ≤ w.heap.size) (hn : n ≤ maxLen) (hso : SoundF es) (hT : Lib.Utf8Tabs 0 1 w) :
    Calls Tryd.prog 4 #[.slice A n c] w (YesPost w) := by
  have K1 := Lib.hid (zzFits11_any A n c es B w h hB hn hso)
  have HH := Lib.hid h
  have HL := Lib.hid h.1
  have HZ := Lib.hid hso
  have HT := Lib.hid hT
  obtain ⟨i0, hi, hz, hsz0, hbb⟩ := info_parts info_string
  clear h hso hT
  go_enter Tryd.func4, Tryd.ntmps4
  go_wp2_with fail
  refine K1.out.mono ?_
  rintro e1 w1 ⟨⟨b1, rfl, -⟩, hb1⟩
  have HB1 := Lib.hid hb1
  clear hb1 K1
  cases b1
  · go_wp2_with fail
    go_ret
    exact ⟨rfl, HB1.out⟩
  · have hB1' : B ≤ w1.heap.size := Nat.le_trans hB HB1.out.size
    have K2 := Lib.hid (fewSteps_any A n c es B w1 (HH.out.below HB1.out hB) hB1' hn HZ.out (Utf8Tabs_below HT.out HB1.out))
    go_wp2_with fail
    refine K2.out.mono ?_
    rintro e2 w2 ⟨⟨b2, rfl, hg2⟩, hb2⟩
    have HB2 := Lib.hid (HB1.out.trans (hb2.mono HB1.out.size))
    have HG2 := Lib.hid hg2
    clear hb2 hg2 K2
    cases b2
    · go_wp2_with fail
      go_ret
      exact ⟨rfl, HB2.out⟩
    · have hn12 := (HG2.out (by trivial)).1
      have HOK := Lib.hid (HG2.out (by trivial)).2
      have hB2' : B ≤ w2.heap.size := Nat.le_trans hB HB2.out.size
      have K3 := Lib.hid (Fields_any A n c es true B w2 (HH.out.below HB2.out hB) hB2' hn12 HOK.out HZ.out)
      go_wp2_with fail
      refine K3.out.mono ?_
      rintro e3 w3 ⟨⟨A3, c3, s1, rfl, a1, a2, a3, a4⟩, hb3⟩
      have HR1 := Lib.hid (strs_own a1)
      have HN1 := Lib.hid a2
      have HB3 := Lib.hid (HB2.out.trans (hb3.mono HB2.out.size))
      have hB3' : B ≤ w3.heap.size := Nat.le_trans hB HB3.out.size
      clear a1 a2 a4 hb3 K3
      have K4 := Lib.hid (Fields_any A n c es false B w3 (HH.out.below HB3.out hB) hB3' hn12 HOK.out HZ.out)
      go_wp2_with fail
      refine K4.out.mono ?_
      rintro e4 w4 ⟨⟨A4, c4, s2, rfl, b1, b2, b3, b4⟩, hb4⟩
      have HR2 := Lib.hid (strs_own b1)
      have HN2 := Lib.hid b2
      have HB34 := Lib.hid hb4
      have HB4 := Lib.hid (HB3.out.trans (hb4.mono HB3.out.size))
      have hB4' : B ≤ w4.heap.size := Nat.le_trans hB HB4.out.size
      clear b1 b2 b4 hb4 K4
      have K5 := Lib.hid (Visible_any A n c es B w4 (HH.out.below HB4.out hB) hB4' hn12 HOK.out HZ.out)
      go_wp2_with fail
      refine K5.out.mono ?_
      rintro e5 w5 ⟨⟨A5, c5, A6, c6, s3, rfl, d1, d2, d3, d4, d5⟩, hb5⟩
      have HR3 := Lib.hid (strs_own d1)
      have HI3 := Lib.hid (Reads.of_own d2)
      have HN3 := Lib.hid d3
      have HB45 := Lib.hid hb5
      have HB35 := Lib.hid (HB34.out.trans (hb5.mono HB34.out.size))
      have HB5 := Lib.hid (HB4.out.trans (hb5.mono HB4.out.size))
      clear d1 d2 d3 d5 hb5 K5
      have HS13 := Lib.hid (names_same HN1.out HN3.out)
      have HS23 := Lib.hid (names_part (qF (visO (objE es))) HN2.out HN3.out (fun x c hx => qF_of hx))
      have HL3 := Lib.hid (show (sortN s3).length = s3.length by unfold sortN; simp)
      generalize visO (objE es) = V at *
      have z34 := HB34.out.size
      have z45 := HB45.out.size
      have K6 := Lib.hid (same_any _ _ A3 A5 s1.length c3 s3.length c5 w5.heap.size w5 ((Reads.below HR1.out (HB35.out)).more (by omega)) HR3.out (Nat.le_refl _) (by omega) (by omega))
      go_wp2_with fail
      refine K6.out.mono ?_
      rintro e6 w6 ⟨⟨b6, rfl, hq6⟩, hb6⟩
      have hb6t : b6 = true := hq6.2 (mkB_inj HS13.out)
      subst hb6t
      have HB56 := Lib.hid hb6
      have z56 := hb6.size
      have HB6 := Lib.hid (HB5.out.trans (hb6.mono HB5.out.size))
      have HV0 := Lib.hid (show WkI V w6 w6 (.slice none 0 0) (sortN s3) 0 from ⟨by unfold wantK; simpa using World.ownsRow_nil _ _ _ _, Below.refl _ _⟩)
      clear hb6 hq6 K6
      go_wp2_with fail
      go_loopw [10, 11] (fun u t wx => ∃ k : Nat, k ≤ s3.length ∧ t = .int .i64 k ∧ Hid (WkI V w6 wx u (sortN s3) k)) (fun _ t _ => s3.length - (intOf t).toNat)
      case atStart => exact ⟨0, Nat.zero_le _, rfl, HV0⟩
      case round =>
        obtain ⟨k, hk, rfl, HX⟩ := hrel
        obtain ⟨x1, x2⟩ := HX.out
        have HX1 := Lib.hid x1
        have HX2 := Lib.hid x2
        have HBr := Lib.hid (HB6.out.trans (x2.mono HB6.out.size))
        have HB5r := Lib.hid (HB56.out.trans (x2.mono HB56.out.size))
        have zr := x2.size
        have hwl : (wantK V (sortN s3) k).length ≤ k := wantK_len
        clear x1 x2
        by_cases hlt : k < s3.length
        · have hk2 : k < (sortN s3).length := by rw [HL3.out]; exact hlt
          have hgx := List.getElem?_eq_getElem hk2
          generalize (sortN s3)[k] = x at *
          obtain ⟨ad, u, rfl, hadb, hu, hcell⟩ := Reads.at_ (Reads.below HR3.out HB5r.out) hlt
          obtain ⟨ad2, u2, rfl, hadb2, hu2, hcell2⟩ := Reads.at_ (Reads.below HI3.out HB5r.out) hlt
          have hu' : u = .string ⟨x.toArray⟩ := by
            rw [List.getElem?_map, List.getElem?_map, hgx] at hu
            injection hu with hu
            exact hu.symm
          have hu2' : u2 = .int .i64 (hideV V x) := by
            rw [List.getElem?_map, hgx] at hu2
            injection hu2 with hu2
            exact hu2.symm
          subst hu' hu2'
          have HGX := Lib.hid hgx
          clear hgx hu hu2 hk2
          generalize hsx : (⟨x.toArray⟩ : ByteArray) = s at *
          have HSX := Lib.hid hsx
          clear hsx
          cases hq : qF V x
          · have q1 : (hideV V x != 1) = false := by
              have : ¬ hideV V x ≠ 1 := of_decide_eq_false hq
              simpa using this
            have HNX : Hid (WkI V w6 wr u10 (sortN s3) (k + 1)) := Lib.hid (by
              unfold WkI
              rw [wantK_succ HGX.out, if_neg (by rw [hq]; decide)]
              exact ⟨HX1.out, HX2.out⟩)
            clear hq
            generalize hideV V x = hv at *
            go_wp2_with fail
            go_roundw
            case rel => exact ⟨k + 1, by omega, by go_num, HNX⟩
            case measure => simp [intOf]; omega
          · have q1 : (hideV V x != 1) = true := by
              have : hideV V x ≠ 1 := of_decide_eq_true hq
              simpa using this
            have HQ := Lib.hid hq
            clear hq
            generalize hideV V x = hv at *
            go_wp2_with (at_builtin; refine wpList_append_x _ rfl (.tmp 68) (.tmp 73) 24 rfl w6.heap.size 9 i0 _ 1 16 Tryd.underlying24 hi hz hsz0 hbb rfl (by omega) u10 (wantK V (sortN s3) k).length _ rfl (HX1.out.alloc _) (wr.heap.size + 1) (some ⟨wr.heap.size, 0, none⟩) 1 1 [.string s] rfl (Reads.ofBlock (cs := #[.string s]) (heap_alloc_new _ _) rfl (by omega)) (by simp [Value.oneCell']) (.inr (by omega)) (by unfold maxLen; omega) (by omega) (by simp; omega) (wr.heap.size + 1) (by simp) ?_; intro g2 cap2 w8 hown2 hgrow2 hat2 hlt2)
            have HNX := Lib.hid (wkI_step ⟨HX1.out, HX2.out⟩ HGX.out HQ.out HSX.out hown2 hgrow2)
            clear hown2 hgrow2 hat2
            go_wp2_with fail
            go_roundw
            case rel => exact ⟨k + 1, by omega, by go_num, HNX⟩
            case measure => simp [intOf]; omega
        · obtain rfl : k = s3.length := by omega
          obtain ⟨A7, c7, rfl⟩ := own_form HX1.out
          have hw : wantK V (sortN s3) s3.length = (sortN s3).filter (qF V) := by
            unfold wantK
            rw [List.take_of_length_le (by rw [HL3.out]; exact Nat.le_refl _)]
          have hl2 : s2.length ≤ 1000 := b3
          have K7 := Lib.hid (same_any _ _ A4 A7 s2.length c4 _ c7 wr.heap.size wr ((Reads.below HR2.out (HB45.out.trans (HB5r.out.mono z45))).more (by omega)) (strs_own HX1.out) (Nat.le_refl _) (by omega) (by omega))
          have HEQ := Lib.hid (HS23.out.trans hw.symm)
          clear hw
          go_wp2_with fail
          refine K7.out.mono ?_
          rintro e9 w9 ⟨⟨b9, rfl, hq9⟩, hb9⟩
          have hb9t : b9 = true := hq9.2 (mkB_inj HEQ.out)
          subst hb9t
          go_wp2_with fail
          go_ret
          exact ⟨rfl, HBr.out.trans (hb9.mono HBr.out.size)⟩
end Go.Proofs.YtkbjcpeogecbgaaDoor
