/-
  impl.StyleString and the statement's function.
-/
import Derived.Test.YtpgmnggicmbacaaGreatDoorSsLit
import Derived.Test.YtpgmnggicmbacaaGreatDoorEsSpec
namespace Go.Proofs.YtpgmnggicmbacaaGreatDoor
open Go.Shelf Go.RowKit

theorem Tabs3.alloc {w : World} (h : Tabs3 w) (o : Obj) : Tabs3 (w.alloc o) := h.below ((Below.refl _ _).alloc (Nat.le_refl _) _)
theorem list_back (s : ByteArray) : (⟨s.data.toList.toArray⟩ : ByteArray) = s := by
  cases s
  simp
theorem stepP_size {s : ByteArray} {i j : Nat} {bs : List UInt8} (hlt : i < s.size) (h : stepP s i = some (j, bs)) : i < j ∧ j ≤ s.size + 4 ∧ bs.length ≤ 4 := by
  have hl := width_le s i
  have hp := width_pos s i hlt
  have key : ∀ (q r : Nat) , i < q → q ≤ s.size + 4 → (some (q, Lib.encodeRune (r : Nat)) : Option (Nat × List UInt8)) = some (j, bs) → i < j ∧ j ≤ s.size + 4 ∧ bs.length ≤ 4 := fun q r h1 h2 e => by
    injection e with e
    injection e with e1 e2
    subst e1 e2
    exact ⟨h1, h2, enc_le2 _⟩
  unfold stepP at h
  split at h
  · split at h
    · cases h
    · have hl2 := width_le s (i + (Utf8.decode s i).2)
      unfold stepB at h
      split at h
      · split at h
        · cases h
        · simp only [Option.bind_eq_some_iff] at h
          obtain ⟨c, -, h⟩ := h
          unfold stepC at h
          split at h
          · split at h
            · cases h
            · split at h
              · cases h
              · simp only [Option.map_eq_some_iff] at h
                obtain ⟨d, -, h⟩ := h
                exact key _ _ (by omega) (by omega) (congrArg some h)
          · exact key _ _ (by omega) (by omega) h
      · simp only [Option.map_eq_some_iff] at h
        obtain ⟨d, -, h⟩ := h
        exact key _ _ (by omega) (by omega) (congrArg some h)
  · exact key _ _ (by omega) (by omega) h
theorem runP_size {s : ByteArray} : ∀ (f i : Nat) (acc : List UInt8) {out : List UInt8}, i ≤ s.size + 4 → acc.length ≤ 4 * i → runP s f i acc = some out → out.length ≤ 4 * (s.size + 4)
  | 0, i, acc, out, hi, ha, h => by
    injection h with h
    subst h
    omega
  | f + 1, i, acc, out, hi, ha, h => by
    by_cases hlt : i < s.size
    · rw [runP_step hlt] at h
      cases hs : stepP s i with
      | none => rw [hs] at h; cases h
      | some x =>
        obtain ⟨j, bs⟩ := x
        rw [hs] at h
        obtain ⟨h1, h2, h3⟩ := stepP_size hlt hs
        exact runP_size f j (acc ++ bs) h2 (by rw [List.length_append]; omega) h
    · rw [runP, if_neg hlt] at h
      injection h with h
      subst h
      omega
/-- What impl.StyleString answers. -/
def IsPost (s : ByteArray) (k y : Nat) (w : World) (e : Ending) (w' : World) : Prop :=
  (match runP s s.size 0 [] with
    | none => e = .returned (.tuple #[.string ⟨#[]⟩, .int .i64 0, .bool false])
    | some l => e = .returned (.tuple #[.string (styled ⟨l.toArray⟩ s k y).1, .int .i64 (styled ⟨l.toArray⟩ s k y).2, .bool true])) ∧ Below w.heap.size w w'
set_option maxRecDepth 100000 in
set_option maxHeartbeats 3200000 in
theorem implStyle_any (s : ByteArray) (k y : Nat) (hs : s.size ≤ 1000000) (hk : k < 2) (hy : y < 2) (w : World) (hT : Tabs3 w) :
    Calls Tryz.prog 6 #[.string s, .int .i64 k, .int .i64 y] w (IsPost s k y w) := by
  have HT := Lib.hid hT
  clear hT
  have q0 : decide ((k : Int) < 0) = false := by simp
  have q4 : decide ((k : Int) > 4) = false := by simp; omega
  go_enter Tryz.func6, Tryz.ntmps6
  go_wp2_with fail
  refine (unescape_any w.heap.size 0 _ _ _ _ _ _ s (by omega) _ (HT.out.alloc _) (LocAt.ofBlk (Blk.new w _ _))).mono ?_
  rintro e1 w1 ⟨hcase, hb1⟩
  have HB1 := Lib.hid (show Below w.heap.size w w1 from ((Below.refl w.heap.size w).alloc (Nat.le_refl _) _).trans (hb1.mono (by simp)))
  clear hb1
  cases hr : runP s s.size 0 [] with
  | none =>
    rw [hr] at hcase
    obtain ⟨v, rfl⟩ := hcase
    have HR := Lib.hid hr
    clear hr
    go_wp2_with fail
    go_ret3
    exact ⟨by rw [HR.out]; rfl, HB1.out⟩
  | some l =>
    rw [hr] at hcase
    obtain rfl := hcase
    obtain ⟨v, hv⟩ : ∃ v : ByteArray, v = ⟨l.toArray⟩ := ⟨_, rfl⟩
    have hvl : v.data.toList = l := by rw [hv]
    have HR := Lib.hid (show runP s s.size 0 [] = some v.data.toList by rw [hr, hvl])
    obtain ⟨m, hm, -⟩ := out_pts hr
    rw [← hv] at hm ⊢
    have HTL := Lib.hid (tail_of_pts hm .done)
    have hvs : v.size ≤ 10000000 := by
      have h1 := runP_size s.size 0 [] (by omega) (by simp) hr
      have h2 : v.size = l.length := by rw [hv]; exact List.size_toArray
      omega
    clear hr hv hvl hm
    go_wp2_with fail
    refine (literal_any w1.heap.size (w1.heap.size + 1) s v k y _ .nilIface (.string ⟨#[]⟩) (.string ⟨#[]⟩) (.slice none 0 0) (.pointer none) (.slice none 0 0) (.pointer none) (.string ⟨#[]⟩) (.int .i64 0) (.int .i64 0) (.int .i64 0) (.int .i64 0) hs hvs hk hy _ (((HT.out.below HB1.out).alloc _).alloc _) ((Blk.new w1 _ _).alloc _) (by rw [World.cell?_alloc_at _ _ _ _ (by simp)]; rfl) HR.out HTL.out).mono ?_
    rintro e2 w2 ⟨rfl, g0, g12, hb2⟩
    have HB2 := Lib.hid (show Below w.heap.size w w2 from HB1.out.trans ((((Below.refl w1.heap.size w1).alloc (Nat.le_refl _) _).alloc (by simp) _ |>.trans hb2).mono HB1.out.size))
    have HRR := Lib.hid (show runP s s.size 0 [] = some v.data.toList from HR.out)
    clear hb2
    generalize hst : styled v s k y = st at *
    have HST := Lib.hid hst
    clear hst
    obtain ⟨o1, o2⟩ := st
    go_wp2_with fail
    go_quiet ((fail))
    go_wp2_with fail
    go_ret3
    refine ⟨?_, below_drewB HB2.out _⟩
    rw [HRR.out]
    show _ = Ending.returned (.tuple #[.string (styled ⟨v.data.toList.toArray⟩ s k y).1, .int .i64 (styled ⟨v.data.toList.toArray⟩ s k y).2, .bool true])
    rw [list_back, HST.out]
    rfl
/-- What comes out means the same. -/
theorem styled_law {v s : ByteArray} {l : List Nat} (k y : Nat) (h : Pts v v.size l) (hq : (hasQ v 39 && hasQ v 34) = false) :
    runS (styled v s k y).1 (styled v s k y).1.size 0 [] true = (some v.data.toList, true) := by
  unfold styled
  rw [if_neg (by rw [hq]; decide)]
  exact (back_law (useS v y) h rfl).1
theorem pieces_le (single : Bool) : ∀ l : List Nat, (pieces single l).length ≤ 6 * l.length
  | [] => by simp [pieces]
  | r :: l => by
    have h1 := pieces_le single l
    have h2 := escB_le single r
    have h3 : pieces single (r :: l) = escB single r ++ pieces single l := by simp [pieces]
    rw [h3, List.length_append, List.length_cons]
    omega
theorem pts_len {s : ByteArray} {i : Nat} {l : List Nat} (h : Pts s i l) : l.length ≤ i := by
  induction h with
  | nil => simp
  | snoc h hp ih =>
    have := hp.1
    rw [List.length_append]
    simp
    omega
theorem styled_size {v s : ByteArray} {l : List Nat} (k y : Nat) (h : Pts v v.size l) (hs : s.size ≤ 1000000) (hv : v.size ≤ 1000000) : (styled v s k y).1.size ≤ 100000000 := by
  unfold styled
  split
  · show s.size ≤ _
    omega
  · have h1 : (⟨(runE v (useS v y) v.size 0 []).toArray⟩ : ByteArray).size = (runE v (useS v y) v.size 0 []).length := List.size_toArray
    show (⟨(runE v (useS v y) v.size 0 []).toArray⟩ : ByteArray).size ≤ _
    rw [h1, runE_all _ h]
    have h3 := pieces_le (useS v y) l
    have h4 := pts_len h
    omega
def TruePost (w : World) (e : Ending) (w' : World) : Prop := e = .returned (.bool true) ∧ Below w.heap.size w w'
/-- What the law asks of what comes out. -/
theorem styled_all {s v : ByteArray} {m : List Nat} (k y : Nat) (hk : k < 2) (hm : Pts v v.size m) (h1 : runS s s.size 0 [] true = (some v.data.toList, true)) (hs : s.size ≤ 1000000) (hv : v.size ≤ 1000000) :
    ∃ o a, styled v s k y = (o, a) ∧ a < 2 ∧ o.size ≤ 100000000 ∧ runS o o.size 0 [] true = (some v.data.toList, true) ∧
      (hasQ v 39 = true → hasQ v 34 = false → a = 1) ∧ (hasQ v 39 = false → hasQ v 34 = true → a = 0) ∧ (hasQ v 39 = false → hasQ v 34 = false → a = if y = 1 then 0 else 1) := by
  refine ⟨(styled v s k y).1, (styled v s k y).2, rfl, ?_, styled_size k y hm hs hv, ?_, ?_, ?_, ?_⟩
  · unfold styled
    split
    · exact hk
    · show (if useS v y then 0 else 1) < 2
      split <;> omega
  · by_cases hq : (hasQ v 39 && hasQ v 34) = true
    · unfold styled
      rw [if_pos hq]
      exact h1
    · exact styled_law k y hm (by simpa using hq)
  · intro a b
    unfold styled useS
    rw [a, b]
    rfl
  · intro a b
    unfold styled useS
    rw [a, b]
    rfl
  · intro a b
    unfold styled useS
    rw [a, b]
    by_cases hy : y = 1
    · subst hy; rfl
    · have : (y == 1) = false := by simpa using hy
      simp only [this]
      rw [if_neg hy]
      rfl
set_option maxRecDepth 100000 in
set_option maxHeartbeats 3200000 in
theorem style_walk (s : ByteArray) (kd st : Nat) (hkd : kd < 256) (hst : st < 256) (hs : s.size ≤ maxLen) (w : World) (hT : Tabs3 w) : Calls Tryz.prog 3 #[.string s, .int .u8 kd, .int .u8 st] w (TruePost w) := by
  have HT := Lib.hid hT
  clear hT
  unfold maxLen at hs
  by_cases hbig : 2147483647 < s.size
  · go_enter Tryz.func3, Tryz.ntmps3
    go_wp2_with fail
    go_ret
    exact ⟨rfl, Below.refl _ _⟩
  by_cases h2 : 2000 < s.size
  · go_enter Tryz.func3, Tryz.ntmps3
    go_wp2_with fail
    go_ret
    exact ⟨rfl, Below.refl _ _⟩
  obtain ⟨k, hk⟩ : ∃ k, k = kd % 5 := ⟨_, rfl⟩
  obtain ⟨y, hy⟩ : ∃ y, y = st % 3 := ⟨_, rfl⟩
  have m1 : ((kd : Int) % 5) = (k : Int) := by omega
  have m2 : ((st : Int) % 3) = (y : Int) := by omega
  have hk5 : k < 5 := by omega
  have hy3 : y < 3 := by omega
  clear hk hy
  go_enter Tryz.func3, Tryz.ntmps3
  go_wp2_with fail
  refine (readable_any s (by omega) _).mono ?_
  rintro e1 w1 ⟨⟨b, rfl, hb⟩, rfl⟩
  cases b with
  | false =>
    clear hb
    go_wp2_with fail
    go_ret
    exact ⟨rfl, Below.refl _ _⟩
  | true =>
    obtain ⟨l, hl⟩ := hb rfl
    have HL := Lib.hid hl
    clear hb hl
    by_cases hk1 : 1 < k
    · go_wp2_with fail
      go_ret
      exact ⟨rfl, Below.refl _ _⟩
    by_cases hy1 : y = 2
    · subst hy1
      go_wp2_with fail
      go_ret
      exact ⟨rfl, Below.refl _ _⟩
    have qy : ((y : Int) == 2) = false := by simp; omega
    go_wp2_with fail
    refine (spec_Unescape_any s (by omega) _).mono ?_
    rintro e2 w2 ⟨hcase, hb2⟩
    have HB2 := Lib.hid hb2
    clear hb2 m1 m2 qy
    have hk2 : k < 2 := by omega
    have hy2 : y < 2 := by omega
    clear hk1 hy1
    cases hr : runS s s.size 0 [] true with
    | mk x sure =>
    cases sure with
    | false =>
      rw [hr] at hcase
      clear hr
      cases x with
      | none =>
        obtain rfl := hcase
        go_wp2_with fail
        go_ret
        exact ⟨rfl, HB2.out⟩
      | some v =>
        obtain rfl := hcase
        go_wp2_with fail
        go_ret
        exact ⟨rfl, HB2.out⟩
    | true =>
      rw [hr] at hcase
      have hp := agree_all HL.out (by rw [hr])
      rw [hr] at hp
      have HP := Lib.hid hp
      cases x with
      | none =>
        obtain rfl := hcase
        clear hr hp
        go_wp2_with fail
        refine (implStyle_any s k y (by omega) hk2 hy2 _ (HT.out.below HB2.out)).mono ?_
        rintro e3 w3 ⟨hcase, hb3⟩
        have HB3 := Lib.hid (HB2.out.trans (hb3.mono HB2.out.size))
        clear hb3
        rw [HP.out] at hcase
        obtain rfl : e3 = .returned (.tuple #[.string ⟨#[]⟩, .int .i64 0, .bool false]) := hcase
        (try clear hcase)
        go_wp2_with fail
        go_ret
        exact ⟨rfl, HB3.out⟩
      | some lv =>
        obtain rfl := hcase
        obtain ⟨v, hv⟩ : ∃ v : ByteArray, v = ⟨lv.toArray⟩ := ⟨_, rfl⟩
        have hvl : v.data.toList = lv := by rw [hv]
        obtain ⟨m, hm, -⟩ := out_pts hp
        have hvs : v.size ≤ 1000000 := by
          have h1 := runP_size s.size 0 [] (by omega) (by simp) hp
          have h3 : v.size = lv.length := by rw [hv]; exact List.size_toArray
          omega
        rw [← hv] at hm ⊢
        obtain ⟨o, a, st1, a2, os, rs, f1, f2, f3⟩ := styled_all k y hk2 hm (by rw [hr, hvl]) (by omega) hvs
        have ST := Lib.hid st1
        have RS := Lib.hid rs
        have HV := Lib.hid hv
        have HPV := Lib.hid (show runP s s.size 0 [] = some v.data.toList by rw [hvl]; exact hp)
        clear hr hp hv hvl hm st1 rs HP
        go_wp2_with fail
        refine (implStyle_any s k y (by omega) hk2 hy2 _ (HT.out.below HB2.out)).mono ?_
        rintro e3 w3 ⟨hcase, hb3⟩
        have HB3 := Lib.hid (HB2.out.trans (hb3.mono HB2.out.size))
        clear hb3
        rw [HPV.out] at hcase
        obtain rfl : e3 = .returned (.tuple #[.string (styled ⟨v.data.toList.toArray⟩ s k y).1, .int .i64 (styled ⟨v.data.toList.toArray⟩ s k y).2, .bool true]) := hcase
        (try clear hcase)
        rw [list_back, ST.out]
        go_wp2_with fail
        refine (spec_Unescape_any o os _).mono ?_
        rintro e4 w4 ⟨hcase, hb4⟩
        have HB4 := Lib.hid (HB3.out.trans (hb4.mono HB3.out.size))
        clear hb4
        rw [RS.out] at hcase
        obtain rfl : e4 = .returned (.tuple #[.string ⟨v.data.toList.toArray⟩, .bool true, .bool true]) := hcase
        (try clear hcase)
        rw [list_back]
        have qv : (v.toList != v.toList) = false := by simp
        have F1 := Lib.hid f1
        have F2 := Lib.hid f2
        have F3 := Lib.hid f3
        clear f1 f2 f3
        obtain rfl | rfl : a = 0 ∨ a = 1 := by omega
        all_goals
          go_wp2_with fail
          refine (hasByte_any v 39 (by omega) _).mono ?_
          rintro e5 w5 ⟨rfl, rfl⟩
          go_wp2_with fail
          refine (hasByte_any v 34 (by omega) _).mono ?_
          rintro e6 w6 ⟨rfl, rfl⟩
          generalize hasQ v 39 = b1 at *
          generalize hasQ v 34 = b2 at *
          obtain rfl | rfl : y = 0 ∨ y = 1 := by omega
          all_goals
            cases b1 <;> cases b2
            all_goals first
              | (exfalso; have := F1.out rfl rfl; omega)
              | (exfalso; have := F2.out rfl rfl; omega)
              | (exfalso; have := F3.out rfl rfl; simp at this; done)
              | (go_wp2_with fail
                 go_ret
                 exact ⟨rfl, HB4.out⟩)
end Go.Proofs.YtpgmnggicmbacaaGreatDoor
