/-
  The walk of FnCommaFixed.
-/
import Derived.Test.YthinfliplpjdjaaCommaFix
namespace Go.Proofs.Ythinfliplpjdjaa
open Go.RowKit

def FixedIs (w : World) (c bl be : Bool) (a b : List Say) (e : Ending) (w' : World) : Prop :=
  ∃ v1 v2 e1 e2, e = .returned (.tuple #[v1, .bool (bl || be), v2, .bool true]) ∧ Elo w' w.heap.size v1 e1 ∧ Elo w' w.heap.size v2 e2 ∧ e1.map CE.say = (if goes c bl be = true then [] else a) ∧ e2.map CE.say = (if goes c bl be = true then concatS a b else b) ∧ Below w.heap.size w w'

theorem commaFixed_is (c bl be : Bool) (A1 A2 : Option Addr) (n1 c1 n2 c2 : Nat) (a b : List CE) (w : World) (h1 : Els w w.heap.size A1 n1 a) (h2 : Els w w.heap.size A2 n2 b) (hn1 : n1 ≤ 40) (hn2 : n2 ≤ 40)
    (p1 : fodderP a) (p2 : fodderP b) (nd : ¬ dullP a b) (hbl : breaksB (a.map CE.say) = bl) (hbe : breaksB (b.map CE.say) = be) :
    Calls Try.prog 32 #[.slice A1 n1 c1, .bool c, .slice A2 n2 c2] w (FixedIs w c bl be (a.map CE.say) (b.map CE.say)) := by
  subst hbl hbe
  exact commaFixed_any c A1 A2 n1 c1 n2 c2 a b w.heap.size w h1 h2 (Nat.le_refl _) (by omega) (by omega) (good_of p1) (good_of p2) (not_dull nd) (fun e he => by have := (n_small h1 p1).2 e he; omega) (fun e he => by have := (n_small h2 p2).2 e he; omega)
theorem breaks_is (r : Bool) (A : Option Addr) (n c : Nat) (es : List CE) (w : World) (hr : breaksB (es.map CE.say) = r) (h : Els w w.heap.size A n es) (hn : n ≤ maxLen) :
    Calls Try.prog 33 #[.slice A n c] w fun e w' => e = .returned (.bool r) ∧ w = w' :=
  hr ▸ breaks_any A n c es w.heap.size w h hn

theorem same_len {A1 A2 : Option Addr} {n1 n2 : Nat} {a b : List CE} {w : World} {B1 B2 : Nat} (h1 : Els w B1 A1 n1 a) (h2 : Els w B2 A2 n2 b) (hs : a.map CE.say = b.map CE.say) : n1 = n2 := by
  have := congrArg List.length hs
  simp only [List.length_map] at this
  rw [← h1.1, ← h2.1, this]

set_option maxRecDepth 100000 in
set_option maxHeartbeats 3200000 in
theorem commaFixed_walk (c : Bool) (A1 A2 : Option Addr) (n1 c1 n2 c2 : Nat) (a b : List CE) (w : World) (h1 : Els w w.heap.size A1 n1 a) (h2 : Els w w.heap.size A2 n2 b) (hn1 : n1 ≤ maxLen) (hn2 : n2 ≤ maxLen) (s1 : Sound a) (s2 : Sound b) :
    Calls Try.prog 8 #[.slice A1 n1 c1, .bool c, .slice A2 n2 c2] w fun e w' => e = .returned (.bool true) ∧ Below w.heap.size w w' := by
  have H1 := Lib.hid h1
  have H2 := Lib.hid h2
  have S1 := Lib.hid s1
  have S2 := Lib.hid s2
  have N1 := Lib.hid hn1
  have N2 := Lib.hid hn2
  clear h1 h2 s1 s2 hn1 hn2
  go_enter Try.func8, Try.ntmps8
  go_wp2_with fail
  refine (zzFits7_any A1 n1 c1 a w.heap.size _ H1.out (Nat.le_refl _) N1.out S1.out).mono ?_
  rintro e1 w1 ⟨rfl, hb1⟩
  have B1 := Lib.hid hb1
  clear hb1
  cases hF1 : fits7 a
  · go_wp2_with fail
    go_ret
    exact ⟨rfl, B1.out⟩
  go_wp2_with fail
  refine (zzFits7_any A2 n2 c2 b w.heap.size _ (H2.out.below B1.out) B1.out.size N2.out S2.out).mono ?_
  rintro e2 w2 ⟨rfl, hb2⟩
  have B2 := Lib.hid (B1.out.trans (hb2.mono B1.out.size))
  clear hb2
  cases hF2 : fits7 b
  · go_wp2_with fail
    go_ret
    exact ⟨rfl, B2.out⟩
  clear hF1 hF2
  go_wp2_with fail
  refine (plain_any A1 n1 c1 a w.heap.size _ (H1.out.below B2.out) B2.out.size N1.out S1.out).mono ?_
  rintro e3 w3 ⟨⟨r3, rfl, hr3⟩, hb3⟩
  have B3 := Lib.hid (B2.out.trans (hb3.mono B2.out.size))
  have R3 := Lib.hid hr3
  clear hb3 hr3
  cases r3
  · go_wp2_with fail
    go_ret
    exact ⟨rfl, B3.out⟩
  go_wp2_with fail
  refine (plain_any A2 n2 c2 b w.heap.size _ (H2.out.below B3.out) B3.out.size N2.out S2.out).mono ?_
  rintro e4 w4 ⟨⟨r4, rfl, hr4⟩, hb4⟩
  have B4 := Lib.hid (B3.out.trans (hb4.mono B3.out.size))
  have R4 := Lib.hid hr4
  clear hb4 hr4
  cases r4
  · go_wp2_with fail
    go_ret
    exact ⟨rfl, B4.out⟩
  have P1 := Lib.hid (R3.out (by trivial))
  have P2 := Lib.hid (R4.out (by trivial))
  clear R3 R4
  have k1 := (n_small H1.out P1.out).1
  have k2 := (n_small H2.out P2.out).1
  by_cases g1 : 40 < n1
  · go_wp2_with fail
    go_ret
    exact ⟨rfl, B4.out⟩
  by_cases g2 : 40 < n2
  · go_wp2_with fail
    go_ret
    exact ⟨rfl, B4.out⟩
  go_wp2_with fail
  refine (dull_any A1 A2 n1 c1 n2 c2 a b w.heap.size _ (H1.out.below B4.out) (H2.out.below B4.out) N1.out).mono ?_
  rintro e5 w5 ⟨⟨r5, rfl, hr5⟩, rfl⟩
  have R5 := Lib.hid hr5
  clear hr5
  cases r5
  case true =>
    go_wp2_with fail
    go_ret
    exact ⟨rfl, B4.out⟩
  have ND := Lib.hid (show ¬ dullP a b from fun h => by have := R5.out.2 h; cases this)
  clear R5
  by_cases hz : c = false ∧ 0 < n1
  · obtain ⟨rfl, hz⟩ := hz
    go_wp2_with fail
    go_ret
    exact ⟨rfl, B4.out⟩
  have Q1 := Lib.hid ((H1.out.below B4.out).more B4.out.size)
  have Q2 := Lib.hid ((H2.out.below B4.out).more B4.out.size)
  obtain ⟨bl, hbl⟩ : ∃ r, breaksB (a.map CE.say) = r := ⟨_, rfl⟩
  obtain ⟨be, hbe⟩ : ∃ r, breaksB (b.map CE.say) = r := ⟨_, rfl⟩
  have BL := Lib.hid hbl
  have BE := Lib.hid hbe
  clear hbl hbe
  have CF := Lib.hid (commaFixed_is c bl be A1 A2 n1 c1 n2 c2 a b w4 Q1.out Q2.out (by omega) (by omega) P1.out P2.out ND.out BL.out BE.out)
  have HZ := Lib.hid (show c = false → n1 = 0 from fun h => by
    rcases Nat.eq_zero_or_pos n1 with h0 | h0
    · exact h0
    · exact absurd ⟨h, h0⟩ hz)
  clear hz
  cases c
  · obtain rfl := HZ.out rfl
    clear HZ
    go_wp2_with fail
    refine CF.out.mono ?_
    rintro e6 w6 ⟨v1, v2, x1, x2, rfl, hx1, hx2, hs1, hs2, hb6⟩
    obtain ⟨X1, l1, j1, rfl⟩ := own_slice hx1.1
    obtain ⟨X2, l2, j2, rfl⟩ := own_slice hx2.1
    have q1 := hx1.els
    have q2 := hx2.els
    have B6 := Lib.hid (B4.out.trans (hb6.mono B4.out.size))
    have U1 := Lib.hid q1.2
    have U2 := Lib.hid q2.2
    have L1 := Lib.hid (Elo.len hx1)
    have L2 := Lib.hid (Elo.len hx2)
    have Q1' := Lib.hid ((Q1.out.below hb6).more hb6.size)
    have Q2' := Lib.hid ((Q2.out.below hb6).more hb6.size)
    have I1 := Lib.hid hs1
    have I2 := Lib.hid hs2
    clear CF hx1 hx2 q1 q2 hb6 hs1 hs2 Q1 Q2
    cases bl <;> cases be
    · have ha : a = [] := List.length_eq_zero_iff.1 H1.out.1
      have hl1 : l1 = 0 := by
        have h := congrArg List.length (show x1.map CE.say = a.map CE.say from I1.out)
        rw [ha] at h
        simpa [U1.out.1] using h
      subst hl1
      have hs2 : x2.map CE.say = concatS (a.map CE.say) (b.map CE.say) := by
        rw [ha]
        exact (show x2.map CE.say = b.map CE.say from I2.out).trans (concatS_left _).symm
      go_wp2_with fail
      refine (breaks_is false A1 0 c1 a _ BL.out Q1'.out N1.out).mono ?_
      rintro e7 w7 ⟨rfl, rfl⟩
      go_wp2_with fail
      refine (breaks_is false A2 n2 c2 b _ BE.out Q2'.out N2.out).mono ?_
      rintro e8 w8 ⟨rfl, rfl⟩
      go_wp2_with fail
      have T2 := say_small H1.out H2.out P1.out P2.out ND.out hs2 L2.out (by have := H1.out.1; omega) (by have := H2.out.1; omega)
      refine (implConcat_any A1 A2 0 c1 n2 c2 a b w6.heap.size _ Q1'.out Q2'.out (Nat.le_refl _) (by omega) (by omega) (good_of P1.out) (good_of P2.out) (not_dull ND.out) (fun e he => by have := (n_small H1.out P1.out).2 e he; omega) (fun e he => by have := (n_small H2.out P2.out).2 e he; omega)).mono ?_
      rintro e9 w9 ⟨v9, es9, rfl, he9, hs9, hb9⟩
      obtain ⟨A9, n9, c9, rfl⟩ := own_slice he9.1
      have q9 := he9.els
      have B9 := Lib.hid (B6.out.trans (hb9.mono B6.out.size))
      have U9 := Lib.hid q9.2
      have U2' := Lib.hid ((U2.out.below hb9).more hb9.size)
      have HS := Lib.hid (hs2.trans hs9.symm)
      have SN := Lib.hid (small_n T2 U2'.out)
      obtain rfl := same_len U2'.out U9.out HS.out
      have hn9 : l2 ≤ maxLen := by
        have h1 := concatS_len (a.map CE.say) (b.map CE.say)
        have h2 := congrArg List.length hs2
        have h3 := U2.out.1
        have h4 := H1.out.1
        have h5 := H2.out.1
        simp only [List.length_map] at h1 h2
        unfold maxLen
        omega
      have HN9 := Lib.hid hn9
      clear T2 he9 hs9 hb9 q9 hs2 hn9
      go_wp2_with fail
      refine (sameFodder_true X2 A9 l2 j2 c9 x2 es9 w9.heap.size _ U2'.out U9.out (Nat.le_refl _) HN9.out HS.out SN.out).mono ?_
      rintro e10 w10 ⟨rfl, hb10⟩
      have B10 := Lib.hid (B9.out.trans (hb10.mono B9.out.size))
      clear hb10
      go_wp2_with fail
      go_ret
      exact ⟨rfl, B10.out⟩
    · have ha : a = [] := List.length_eq_zero_iff.1 H1.out.1
      have hl1 : l1 = 0 := by
        have h := congrArg List.length (show x1.map CE.say = a.map CE.say from I1.out)
        rw [ha] at h
        simpa [U1.out.1] using h
      subst hl1
      have hs2 : x2.map CE.say = concatS (a.map CE.say) (b.map CE.say) := by
        rw [ha]
        exact (show x2.map CE.say = b.map CE.say from I2.out).trans (concatS_left _).symm
      go_wp2_with fail
      refine (breaks_is false A1 0 c1 a _ BL.out Q1'.out N1.out).mono ?_
      rintro e7 w7 ⟨rfl, rfl⟩
      go_wp2_with fail
      refine (breaks_is true A2 n2 c2 b _ BE.out Q2'.out N2.out).mono ?_
      rintro e8 w8 ⟨rfl, rfl⟩
      go_wp2_with fail
      have T2 := say_small H1.out H2.out P1.out P2.out ND.out hs2 L2.out (by have := H1.out.1; omega) (by have := H2.out.1; omega)
      refine (implConcat_any A1 A2 0 c1 n2 c2 a b w6.heap.size _ Q1'.out Q2'.out (Nat.le_refl _) (by omega) (by omega) (good_of P1.out) (good_of P2.out) (not_dull ND.out) (fun e he => by have := (n_small H1.out P1.out).2 e he; omega) (fun e he => by have := (n_small H2.out P2.out).2 e he; omega)).mono ?_
      rintro e9 w9 ⟨v9, es9, rfl, he9, hs9, hb9⟩
      obtain ⟨A9, n9, c9, rfl⟩ := own_slice he9.1
      have q9 := he9.els
      have B9 := Lib.hid (B6.out.trans (hb9.mono B6.out.size))
      have U9 := Lib.hid q9.2
      have U2' := Lib.hid ((U2.out.below hb9).more hb9.size)
      have HS := Lib.hid (hs2.trans hs9.symm)
      have SN := Lib.hid (small_n T2 U2'.out)
      obtain rfl := same_len U2'.out U9.out HS.out
      have hn9 : l2 ≤ maxLen := by
        have h1 := concatS_len (a.map CE.say) (b.map CE.say)
        have h2 := congrArg List.length hs2
        have h3 := U2.out.1
        have h4 := H1.out.1
        have h5 := H2.out.1
        simp only [List.length_map] at h1 h2
        unfold maxLen
        omega
      have HN9 := Lib.hid hn9
      clear T2 he9 hs9 hb9 q9 hs2 hn9
      go_wp2_with fail
      refine (sameFodder_true X2 A9 l2 j2 c9 x2 es9 w9.heap.size _ U2'.out U9.out (Nat.le_refl _) HN9.out HS.out SN.out).mono ?_
      rintro e10 w10 ⟨rfl, hb10⟩
      have B10 := Lib.hid (B9.out.trans (hb10.mono B9.out.size))
      clear hb10
      go_wp2_with fail
      go_ret
      exact ⟨rfl, B10.out⟩
    · have ha : a = [] := List.length_eq_zero_iff.1 H1.out.1
      have hl1 : l1 = 0 := by
        have h := congrArg List.length (show x1.map CE.say = a.map CE.say from I1.out)
        rw [ha] at h
        simpa [U1.out.1] using h
      subst hl1
      have hs2 : x2.map CE.say = concatS (a.map CE.say) (b.map CE.say) := by
        rw [ha]
        exact (show x2.map CE.say = b.map CE.say from I2.out).trans (concatS_left _).symm
      go_wp2_with fail
      refine (breaks_is true A1 0 c1 a _ BL.out Q1'.out N1.out).mono ?_
      rintro e7 w7 ⟨rfl, rfl⟩
      go_wp2_with fail
      have T2 := say_small H1.out H2.out P1.out P2.out ND.out hs2 L2.out (by have := H1.out.1; omega) (by have := H2.out.1; omega)
      refine (implConcat_any A1 A2 0 c1 n2 c2 a b w6.heap.size _ Q1'.out Q2'.out (Nat.le_refl _) (by omega) (by omega) (good_of P1.out) (good_of P2.out) (not_dull ND.out) (fun e he => by have := (n_small H1.out P1.out).2 e he; omega) (fun e he => by have := (n_small H2.out P2.out).2 e he; omega)).mono ?_
      rintro e9 w9 ⟨v9, es9, rfl, he9, hs9, hb9⟩
      obtain ⟨A9, n9, c9, rfl⟩ := own_slice he9.1
      have q9 := he9.els
      have B9 := Lib.hid (B6.out.trans (hb9.mono B6.out.size))
      have U9 := Lib.hid q9.2
      have U2' := Lib.hid ((U2.out.below hb9).more hb9.size)
      have HS := Lib.hid (hs2.trans hs9.symm)
      have SN := Lib.hid (small_n T2 U2'.out)
      obtain rfl := same_len U2'.out U9.out HS.out
      have hn9 : l2 ≤ maxLen := by
        have h1 := concatS_len (a.map CE.say) (b.map CE.say)
        have h2 := congrArg List.length hs2
        have h3 := U2.out.1
        have h4 := H1.out.1
        have h5 := H2.out.1
        simp only [List.length_map] at h1 h2
        unfold maxLen
        omega
      have HN9 := Lib.hid hn9
      clear T2 he9 hs9 hb9 q9 hs2 hn9
      go_wp2_with fail
      refine (sameFodder_true X2 A9 l2 j2 c9 x2 es9 w9.heap.size _ U2'.out U9.out (Nat.le_refl _) HN9.out HS.out SN.out).mono ?_
      rintro e10 w10 ⟨rfl, hb10⟩
      have B10 := Lib.hid (B9.out.trans (hb10.mono B9.out.size))
      clear hb10
      go_wp2_with fail
      go_ret
      exact ⟨rfl, B10.out⟩
    · have ha : a = [] := List.length_eq_zero_iff.1 H1.out.1
      have hl1 : l1 = 0 := by
        have h := congrArg List.length (show x1.map CE.say = a.map CE.say from I1.out)
        rw [ha] at h
        simpa [U1.out.1] using h
      subst hl1
      have hs2 : x2.map CE.say = concatS (a.map CE.say) (b.map CE.say) := by
        rw [ha]
        exact (show x2.map CE.say = b.map CE.say from I2.out).trans (concatS_left _).symm
      go_wp2_with fail
      refine (breaks_is true A1 0 c1 a _ BL.out Q1'.out N1.out).mono ?_
      rintro e7 w7 ⟨rfl, rfl⟩
      go_wp2_with fail
      have T2 := say_small H1.out H2.out P1.out P2.out ND.out hs2 L2.out (by have := H1.out.1; omega) (by have := H2.out.1; omega)
      refine (implConcat_any A1 A2 0 c1 n2 c2 a b w6.heap.size _ Q1'.out Q2'.out (Nat.le_refl _) (by omega) (by omega) (good_of P1.out) (good_of P2.out) (not_dull ND.out) (fun e he => by have := (n_small H1.out P1.out).2 e he; omega) (fun e he => by have := (n_small H2.out P2.out).2 e he; omega)).mono ?_
      rintro e9 w9 ⟨v9, es9, rfl, he9, hs9, hb9⟩
      obtain ⟨A9, n9, c9, rfl⟩ := own_slice he9.1
      have q9 := he9.els
      have B9 := Lib.hid (B6.out.trans (hb9.mono B6.out.size))
      have U9 := Lib.hid q9.2
      have U2' := Lib.hid ((U2.out.below hb9).more hb9.size)
      have HS := Lib.hid (hs2.trans hs9.symm)
      have SN := Lib.hid (small_n T2 U2'.out)
      obtain rfl := same_len U2'.out U9.out HS.out
      have hn9 : l2 ≤ maxLen := by
        have h1 := concatS_len (a.map CE.say) (b.map CE.say)
        have h2 := congrArg List.length hs2
        have h3 := U2.out.1
        have h4 := H1.out.1
        have h5 := H2.out.1
        simp only [List.length_map] at h1 h2
        unfold maxLen
        omega
      have HN9 := Lib.hid hn9
      clear T2 he9 hs9 hb9 q9 hs2 hn9
      go_wp2_with fail
      refine (sameFodder_true X2 A9 l2 j2 c9 x2 es9 w9.heap.size _ U2'.out U9.out (Nat.le_refl _) HN9.out HS.out SN.out).mono ?_
      rintro e10 w10 ⟨rfl, hb10⟩
      have B10 := Lib.hid (B9.out.trans (hb10.mono B9.out.size))
      clear hb10
      go_wp2_with fail
      go_ret
      exact ⟨rfl, B10.out⟩
  · skip
    clear HZ
    go_wp2_with fail
    refine CF.out.mono ?_
    rintro e6 w6 ⟨v1, v2, x1, x2, rfl, hx1, hx2, hs1, hs2, hb6⟩
    obtain ⟨X1, l1, j1, rfl⟩ := own_slice hx1.1
    obtain ⟨X2, l2, j2, rfl⟩ := own_slice hx2.1
    have q1 := hx1.els
    have q2 := hx2.els
    have B6 := Lib.hid (B4.out.trans (hb6.mono B4.out.size))
    have U1 := Lib.hid q1.2
    have U2 := Lib.hid q2.2
    have L1 := Lib.hid (Elo.len hx1)
    have L2 := Lib.hid (Elo.len hx2)
    have Q1' := Lib.hid ((Q1.out.below hb6).more hb6.size)
    have Q2' := Lib.hid ((Q2.out.below hb6).more hb6.size)
    have I1 := Lib.hid hs1
    have I2 := Lib.hid hs2
    clear CF hx1 hx2 q1 q2 hb6 hs1 hs2 Q1 Q2
    cases bl <;> cases be
    · have hl1 : l1 = 0 := by
        have h := congrArg List.length (show x1.map CE.say = [] from I1.out)
        simpa [U1.out.1] using h
      subst hl1
      have hs2 : x2.map CE.say = concatS (a.map CE.say) (b.map CE.say) := I2.out
      go_wp2_with fail
      refine (breaks_is false A1 n1 c1 a _ BL.out Q1'.out N1.out).mono ?_
      rintro e7 w7 ⟨rfl, rfl⟩
      go_wp2_with fail
      refine (breaks_is false A2 n2 c2 b _ BE.out Q2'.out N2.out).mono ?_
      rintro e8 w8 ⟨rfl, rfl⟩
      go_wp2_with fail
      have T2 := say_small H1.out H2.out P1.out P2.out ND.out hs2 L2.out (by have := H1.out.1; omega) (by have := H2.out.1; omega)
      refine (implConcat_any A1 A2 n1 c1 n2 c2 a b w6.heap.size _ Q1'.out Q2'.out (Nat.le_refl _) (by omega) (by omega) (good_of P1.out) (good_of P2.out) (not_dull ND.out) (fun e he => by have := (n_small H1.out P1.out).2 e he; omega) (fun e he => by have := (n_small H2.out P2.out).2 e he; omega)).mono ?_
      rintro e9 w9 ⟨v9, es9, rfl, he9, hs9, hb9⟩
      obtain ⟨A9, n9, c9, rfl⟩ := own_slice he9.1
      have q9 := he9.els
      have B9 := Lib.hid (B6.out.trans (hb9.mono B6.out.size))
      have U9 := Lib.hid q9.2
      have U2' := Lib.hid ((U2.out.below hb9).more hb9.size)
      have HS := Lib.hid (hs2.trans hs9.symm)
      have SN := Lib.hid (small_n T2 U2'.out)
      obtain rfl := same_len U2'.out U9.out HS.out
      have hn9 : l2 ≤ maxLen := by
        have h1 := concatS_len (a.map CE.say) (b.map CE.say)
        have h2 := congrArg List.length hs2
        have h3 := U2.out.1
        have h4 := H1.out.1
        have h5 := H2.out.1
        simp only [List.length_map] at h1 h2
        unfold maxLen
        omega
      have HN9 := Lib.hid hn9
      clear T2 he9 hs9 hb9 q9 hs2 hn9
      go_wp2_with fail
      refine (sameFodder_true X2 A9 l2 j2 c9 x2 es9 w9.heap.size _ U2'.out U9.out (Nat.le_refl _) HN9.out HS.out SN.out).mono ?_
      rintro e10 w10 ⟨rfl, hb10⟩
      have B10 := Lib.hid (B9.out.trans (hb10.mono B9.out.size))
      clear hb10
      go_wp2_with fail
      go_ret
      exact ⟨rfl, B10.out⟩
    · have hs1 : x1.map CE.say = a.map CE.say := I1.out
      have hs2 : x2.map CE.say = b.map CE.say := I2.out
      go_wp2_with fail
      refine (breaks_is false A1 n1 c1 a _ BL.out Q1'.out N1.out).mono ?_
      rintro e7 w7 ⟨rfl, rfl⟩
      go_wp2_with fail
      refine (breaks_is true A2 n2 c2 b _ BE.out Q2'.out N2.out).mono ?_
      rintro e8 w8 ⟨rfl, rfl⟩
      go_wp2_with fail
      obtain rfl := same_len U1.out Q1'.out hs1
      obtain rfl := same_len U2.out Q2'.out hs2
      refine (sameFodder_true X1 A1 l1 j1 c1 x1 a w6.heap.size _ U1.out Q1'.out (Nat.le_refl _) N1.out hs1 (fun e he => ?_)).mono ?_
      · have h1 := say_lens hs1 rfl P1.out e he
        have h2 := L1.out e he
        omega
      rintro e9 w9 ⟨rfl, hb9⟩
      have B9 := Lib.hid (B6.out.trans (hb9.mono B6.out.size))
      have U2' := Lib.hid ((U2.out.below hb9).more hb9.size)
      have Q2'' := Lib.hid ((Q2'.out.below hb9).more hb9.size)
      clear hb9
      go_wp2_with fail
      refine (sameFodder_true X2 A2 l2 j2 c2 x2 b w9.heap.size _ U2'.out Q2''.out (Nat.le_refl _) N2.out hs2 (fun e he => ?_)).mono ?_
      · have h1 := say_lens hs2 rfl P2.out e he
        have h2 := L2.out e he
        omega
      rintro e10 w10 ⟨rfl, hb10⟩
      have B10 := Lib.hid (B9.out.trans (hb10.mono B9.out.size))
      clear hb10
      go_wp2_with fail
      go_ret
      exact ⟨rfl, B10.out⟩
    · have hl1 : l1 = 0 := by
        have h := congrArg List.length (show x1.map CE.say = [] from I1.out)
        simpa [U1.out.1] using h
      subst hl1
      have hs2 : x2.map CE.say = concatS (a.map CE.say) (b.map CE.say) := I2.out
      go_wp2_with fail
      refine (breaks_is true A1 n1 c1 a _ BL.out Q1'.out N1.out).mono ?_
      rintro e7 w7 ⟨rfl, rfl⟩
      go_wp2_with fail
      have T2 := say_small H1.out H2.out P1.out P2.out ND.out hs2 L2.out (by have := H1.out.1; omega) (by have := H2.out.1; omega)
      refine (implConcat_any A1 A2 n1 c1 n2 c2 a b w6.heap.size _ Q1'.out Q2'.out (Nat.le_refl _) (by omega) (by omega) (good_of P1.out) (good_of P2.out) (not_dull ND.out) (fun e he => by have := (n_small H1.out P1.out).2 e he; omega) (fun e he => by have := (n_small H2.out P2.out).2 e he; omega)).mono ?_
      rintro e9 w9 ⟨v9, es9, rfl, he9, hs9, hb9⟩
      obtain ⟨A9, n9, c9, rfl⟩ := own_slice he9.1
      have q9 := he9.els
      have B9 := Lib.hid (B6.out.trans (hb9.mono B6.out.size))
      have U9 := Lib.hid q9.2
      have U2' := Lib.hid ((U2.out.below hb9).more hb9.size)
      have HS := Lib.hid (hs2.trans hs9.symm)
      have SN := Lib.hid (small_n T2 U2'.out)
      obtain rfl := same_len U2'.out U9.out HS.out
      have hn9 : l2 ≤ maxLen := by
        have h1 := concatS_len (a.map CE.say) (b.map CE.say)
        have h2 := congrArg List.length hs2
        have h3 := U2.out.1
        have h4 := H1.out.1
        have h5 := H2.out.1
        simp only [List.length_map] at h1 h2
        unfold maxLen
        omega
      have HN9 := Lib.hid hn9
      clear T2 he9 hs9 hb9 q9 hs2 hn9
      go_wp2_with fail
      refine (sameFodder_true X2 A9 l2 j2 c9 x2 es9 w9.heap.size _ U2'.out U9.out (Nat.le_refl _) HN9.out HS.out SN.out).mono ?_
      rintro e10 w10 ⟨rfl, hb10⟩
      have B10 := Lib.hid (B9.out.trans (hb10.mono B9.out.size))
      clear hb10
      go_wp2_with fail
      go_ret
      exact ⟨rfl, B10.out⟩
    · have hl1 : l1 = 0 := by
        have h := congrArg List.length (show x1.map CE.say = [] from I1.out)
        simpa [U1.out.1] using h
      subst hl1
      have hs2 : x2.map CE.say = concatS (a.map CE.say) (b.map CE.say) := I2.out
      go_wp2_with fail
      refine (breaks_is true A1 n1 c1 a _ BL.out Q1'.out N1.out).mono ?_
      rintro e7 w7 ⟨rfl, rfl⟩
      go_wp2_with fail
      have T2 := say_small H1.out H2.out P1.out P2.out ND.out hs2 L2.out (by have := H1.out.1; omega) (by have := H2.out.1; omega)
      refine (implConcat_any A1 A2 n1 c1 n2 c2 a b w6.heap.size _ Q1'.out Q2'.out (Nat.le_refl _) (by omega) (by omega) (good_of P1.out) (good_of P2.out) (not_dull ND.out) (fun e he => by have := (n_small H1.out P1.out).2 e he; omega) (fun e he => by have := (n_small H2.out P2.out).2 e he; omega)).mono ?_
      rintro e9 w9 ⟨v9, es9, rfl, he9, hs9, hb9⟩
      obtain ⟨A9, n9, c9, rfl⟩ := own_slice he9.1
      have q9 := he9.els
      have B9 := Lib.hid (B6.out.trans (hb9.mono B6.out.size))
      have U9 := Lib.hid q9.2
      have U2' := Lib.hid ((U2.out.below hb9).more hb9.size)
      have HS := Lib.hid (hs2.trans hs9.symm)
      have SN := Lib.hid (small_n T2 U2'.out)
      obtain rfl := same_len U2'.out U9.out HS.out
      have hn9 : l2 ≤ maxLen := by
        have h1 := concatS_len (a.map CE.say) (b.map CE.say)
        have h2 := congrArg List.length hs2
        have h3 := U2.out.1
        have h4 := H1.out.1
        have h5 := H2.out.1
        simp only [List.length_map] at h1 h2
        unfold maxLen
        omega
      have HN9 := Lib.hid hn9
      clear T2 he9 hs9 hb9 q9 hs2 hn9
      go_wp2_with fail
      refine (sameFodder_true X2 A9 l2 j2 c9 x2 es9 w9.heap.size _ U2'.out U9.out (Nat.le_refl _) HN9.out HS.out SN.out).mono ?_
      rintro e10 w10 ⟨rfl, hb10⟩
      have B10 := Lib.hid (B9.out.trans (hb10.mono B9.out.size))
      clear hb10
      go_wp2_with fail
      go_ret
      exact ⟨rfl, B10.out⟩
end Go.Proofs.Ythinfliplpjdjaa
