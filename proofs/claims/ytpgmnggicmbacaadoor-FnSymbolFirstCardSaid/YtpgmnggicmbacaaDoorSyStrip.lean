/-
  stripWhitespace with no margin: the beginning stays.
-/
import Derived.Test.YtpgmnggicmbacaaDoorSyRn
namespace Go.Proofs.YtpgmnggicmbacaaDoor
open Go.Shelf Go.RowKit
set_option linter.unusedVariables false
set_option linter.unusedSimpArgs false

/-- A number of a list. -/
def nthI (l : List Int) (j : Nat) : Int := l.getD j 0
/-- A text that begins with a slash stays one. -/
def Sl (s t : ByteArray) : Prop := t.size ≤ 4 * s.size ∧ (0 < s.size → by_ s 0 = 47 → 0 < t.size ∧ by_ t 0 = 47)
def StPost (s : ByteArray) (w : World) (e : Ending) (w' : World) : Prop := (∃ t, e = .returned (.string t) ∧ Sl s t) ∧ Below w.heap.size w w'
theorem addr_add (g k : Nat) : (⟨g, 0, none⟩ : Addr).add k = ⟨g, k, none⟩ := by
  unfold Addr.add
  split
  · rename_i h
    subst h
    rfl
  · simp
theorem rb_len (l : List Int) : (runesBytes l).size ≤ 4 * l.length := runesBytes_size_le l
theorem sl_cut {s : ByteArray} {rs : List Int} {j : Nat} (h : 0 < s.size → by_ s 0 = 47 → ∃ l, rs = 47 :: l) (hl : rs.length ≤ s.size) (hj : j ≤ rs.length) (h1 : ∀ l, rs = 47 :: l → 1 ≤ j) : Sl s (runesBytes (rs.take j)) := by
  refine ⟨Nat.le_trans (rb_len _) (by rw [List.length_take]; omega), fun h2 h3 => ?_⟩
  obtain ⟨l, rfl⟩ := h h2 h3
  obtain ⟨k, rfl⟩ : ∃ k, j = k + 1 := ⟨j - 1, by have := h1 l rfl; omega⟩
  rw [List.take_succ_cons]
  exact rb_head _
theorem hor_more {rs : List Int} {j : Nat} (h1 : ∀ l, rs = 47 :: l → 1 ≤ j) (h : (nthI rs (j - 1) == 32 || nthI rs (j - 1) == 9 || nthI rs (j - 1) == 13) = true) : ∀ l, rs = 47 :: l → 1 ≤ j - 1 := fun l e => by
  have h2 := h1 l e
  rcases Nat.lt_or_ge 1 j with g | g
  · omega
  · obtain rfl : j = 1 := by omega
    subst e
    exact absurd h (show ¬ ((47 : Int) == 32 || (47 : Int) == 9 || (47 : Int) == 13) = true by decide)
set_option maxRecDepth 100000 in
set_option maxHeartbeats 3200000 in
theorem strip_any (s : ByteArray) (hs : s.size ≤ 8000000) (w : World) : Calls Tryd.prog 98 #[.string s, .int .i64 0] w (StPost s w) := by
  have h46 : (Conv.runesFrom s s.size 0 #[]).size ≤ 70368744177664 := by
    have := size_runesFrom s s.size 0 #[]
    simp at this
    omega
  have hcv := run_runes_of_string (P := Tryd.prog) w 9 164 21 s Tryd.underlying9 Tryd.underlying164 Tryd.underlying21 h46
  have he : Conv.runesFrom s s.size 0 #[] = ((rnF s s.size 0).map (Value.int .i32)).toArray := by rw [conv_rn]; simp
  have hlen := rnF_len s s.size 0
  have hhead : 0 < s.size → by_ s 0 = 47 → ∃ l, rnF s s.size 0 = 47 :: l := rnF_head
  have hpos : 0 < s.size → 1 ≤ (rnF s s.size 0).length := rnF_pos
  rw [he] at hcv
  have hcap := grownCap_ge w ((rnF s s.size 0).map (Value.int .i32)).toArray.size 0 21
  have hcapm := grownCap_le_maxLen w ((rnF s s.size 0).map (Value.int .i32)).toArray.size 0 21 (by unfold maxLen; simp; omega)
  generalize grownCap w ((rnF s s.size 0).map (Value.int .i32)).toArray.size 0 21 = C at hcv hcap hcapm
  rw [show ((rnF s s.size 0).map (Value.int .i32)).toArray.size = (rnF s s.size 0).length by simp] at hcap
  generalize rnF s s.size 0 = rs at hcv hlen hhead hpos hcap hcapm
  clear he h46
  generalize Array.replicate (C - (rs.map (Value.int .i32)).toArray.size) (Value.int .i32 0) = R at hcv
  have hsz : (rs.map (Value.int .i32)).toArray.size = rs.length := by simp
  rw [hsz] at hcv
  have hcell : ∀ j, j < rs.length → (w.drew.alloc (.cells ((rs.map (Value.int .i32)).toArray ++ R) 21)).cell? ⟨w.heap.size, j, none⟩ = some (.int .i32 (nthI rs j)) := fun j hj => by
    have hB : Blk (w.drew.alloc (.cells ((rs.map (Value.int .i32)).toArray ++ R) 21)) w.heap.size 21 ((rs.map (Value.int .i32)).toArray ++ R) := heap_alloc_new w.drew _
    have h1 := hB.cell j
    rw [h1, Array.getElem?_append_left (by simpa using hj)]
    simp [nthI, List.getD_eq_getElem?_getD, List.getElem?_eq_getElem hj]
  have HB := Lib.hid (show Below w.heap.size w (w.drew.alloc (.cells ((rs.map (Value.int .i32)).toArray ++ R) 21)) from ((Below.refl _ w).drew).alloc (Nat.le_refl _) _)
  generalize hW : w.drew.alloc (.cells ((rs.map (Value.int .i32)).toArray ++ R) 21) = W at hcv hcell HB
  clear hW hsz
  have HC := Lib.hid hcell
  have HH := Lib.hid hhead
  clear hcell hhead
  by_cases h0 : s.size = 0
  · have q0 : ((s.size : Int) == 0) = true := by rw [h0]; rfl
    go_enter Tryd.func98, Tryd.ntmps98
    go_wp2_with (simp only [hcv])
    go_ret
    exact ⟨⟨s, rfl, by omega, fun h => absurd h (by omega)⟩, HB.out⟩
  · have q0 : ((s.size : Int) == 0) = false := by rw [beq_eq_false_iff_ne]; omega
    have hp := hpos (by omega)
    have c0 := HC.out 0 (by omega)
    have q1 : (0 : Int) < (rs.length : Int) := by omega
    go_enter Tryd.func98, Tryd.ntmps98
    go_wp2_with (simp only [hcv])
    clear hcv
    go_loopw [6] (fun t wr => t = .int .i64 0 ∧ W = wr) (fun _ _ => 0)
    case atStart => exact ⟨rfl, by trivial⟩
    case round =>
      obtain ⟨rfl, rfl⟩ := hrel
      go_wp2_with fail
      refine (isHor_any (nthI rs 0) _).mono ?_
      rintro e1 w1 ⟨rfl, rfl⟩
      generalize (nthI rs 0 == 32 || nthI rs 0 == 9 || nthI rs 0 == 13) = q0
      cases q0
      · go_wp2_with fail
        go_loopw [7] (fun t wr => ∃ j : Nat, t = .int .i64 j ∧ j ≤ rs.length ∧ Hid (∀ l, rs = 47 :: l → 1 ≤ j) ∧ W = wr) (fun t _ => (intOf t).toNat)
        case atStart => exact ⟨rs.length, rfl, Nat.le_refl _, Lib.hid fun l e => by rw [e]; simp, by trivial⟩
        case round =>
          obtain ⟨j, rfl, hj, HJ, rfl⟩ := hrel
          have HCV := Lib.hid (run_convert_runes (P := Tryd.prog) W 164 9 21 ⟨w.heap.size, 0, none⟩ j C rs hj Tryd.underlying164 Tryd.underlying21 Tryd.underlying9 (fun k hk => by rw [addr_add]; exact HC.out k hk))
          have HS := Lib.hid (sl_cut HH.out hlen hj HJ.out)
          have j0 : (0 : Int) ≤ (j : Int) := by omega
          have j1 : (j : Int) ≤ (C : Int) := by omega
          rcases Nat.eq_zero_or_pos j with hz | hz
          · subst hz
            have hcv2 := HCV.out
            go_wp2_with (simp only [hcv2])
            go_ret
            exact ⟨⟨_, rfl, HS.out⟩, HB.out⟩
          · have q2 : (0 : Int) < (j : Int) := by omega
            have wj : IntKind.i64.wrap ((j : Int) - 1) = ((j - 1 : Nat) : Int) := by rw [IntWalk.i64_in _ (by omega)]; omega
            have c1 := HC.out (j - 1) (by omega)
            have k0 : ((j - 1 : Nat) : Int) < (rs.length : Int) := by omega
            go_wp2_with fail
            refine (isHor_any (nthI rs (j - 1)) _).mono ?_
            rintro e2 w2 ⟨rfl, rfl⟩
            obtain ⟨q3, hq3⟩ : ∃ q3, q3 = (nthI rs (j - 1) == 32 || nthI rs (j - 1) == 9 || nthI rs (j - 1) == 13) := ⟨_, rfl⟩
            rw [← hq3]
            have HJ2 := Lib.hid (fun h : q3 = true => hor_more HJ.out (hq3.symm.trans h))
            clear hq3
            cases q3
            · have hcv2 := HCV.out
              go_wp2_with (simp only [hcv2])
              go_ret
              exact ⟨⟨_, rfl, HS.out⟩, HB.out⟩
            · go_wp2_with fail
              go_roundw
              case rel => exact ⟨j - 1, by go_num, by omega, Lib.hid (HJ2.out trivial), by trivial⟩
              case measure => simp [intOf]; omega
      · go_wp2_with fail
        go_loopw [7] (fun t wr => ∃ j : Nat, t = .int .i64 j ∧ j ≤ rs.length ∧ Hid (∀ l, rs = 47 :: l → 1 ≤ j) ∧ W = wr) (fun t _ => (intOf t).toNat)
        case atStart => exact ⟨rs.length, rfl, Nat.le_refl _, Lib.hid fun l e => by rw [e]; simp, by trivial⟩
        case round =>
          obtain ⟨j, rfl, hj, HJ, rfl⟩ := hrel
          have HCV := Lib.hid (run_convert_runes (P := Tryd.prog) W 164 9 21 ⟨w.heap.size, 0, none⟩ j C rs hj Tryd.underlying164 Tryd.underlying21 Tryd.underlying9 (fun k hk => by rw [addr_add]; exact HC.out k hk))
          have HS := Lib.hid (sl_cut HH.out hlen hj HJ.out)
          have j0 : (0 : Int) ≤ (j : Int) := by omega
          have j1 : (j : Int) ≤ (C : Int) := by omega
          rcases Nat.eq_zero_or_pos j with hz | hz
          · subst hz
            have hcv2 := HCV.out
            go_wp2_with (simp only [hcv2])
            go_ret
            exact ⟨⟨_, rfl, HS.out⟩, HB.out⟩
          · have q2 : (0 : Int) < (j : Int) := by omega
            have wj : IntKind.i64.wrap ((j : Int) - 1) = ((j - 1 : Nat) : Int) := by rw [IntWalk.i64_in _ (by omega)]; omega
            have c1 := HC.out (j - 1) (by omega)
            have k0 : ((j - 1 : Nat) : Int) < (rs.length : Int) := by omega
            go_wp2_with fail
            refine (isHor_any (nthI rs (j - 1)) _).mono ?_
            rintro e2 w2 ⟨rfl, rfl⟩
            obtain ⟨q3, hq3⟩ : ∃ q3, q3 = (nthI rs (j - 1) == 32 || nthI rs (j - 1) == 9 || nthI rs (j - 1) == 13) := ⟨_, rfl⟩
            rw [← hq3]
            have HJ2 := Lib.hid (fun h : q3 = true => hor_more HJ.out (hq3.symm.trans h))
            clear hq3
            cases q3
            · have hcv2 := HCV.out
              go_wp2_with (simp only [hcv2])
              go_ret
              exact ⟨⟨_, rfl, HS.out⟩, HB.out⟩
            · go_wp2_with fail
              go_roundw
              case rel => exact ⟨j - 1, by go_num, by omega, Lib.hid (HJ2.out trivial), by trivial⟩
              case measure => simp [intOf]; omega
end Go.Proofs.YtpgmnggicmbacaaDoor
