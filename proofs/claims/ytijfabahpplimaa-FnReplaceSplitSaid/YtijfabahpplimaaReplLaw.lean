/-
  The walk of FnReplaceSplit: it answers true.
-/
import Derived.Test.YtijfabahpplimaaSplitPart
import Derived.Test.YtijfabahpplimaaPtsTxt
namespace Go.Proofs.Ytijfabahpplimaa
open Go.RowKit Ieee

theorem parts_len (f : ByteArray) (h0 : 0 < f.size) : ∀ (b : Nat) (s : ByteArray), 0 < (parts f b s).length ∧ (parts f b s).length ≤ s.size + 1
  | 0, s => by simp [parts]
  | b + 1, s => by
    cases h : idx s f with
    | none => rw [parts_none h]; simp
    | some i =>
      have h1 := (idx_some h).1
      have h2 := (parts_len f h0 b (rest s f i)).2
      rw [rest_size h1] at h2
      rw [parts_some h, List.length_cons]
      omega

/-- What units9 answers, and that a text that it takes is short, and UTF-8. -/
def U9 (s : ByteArray) (w : World) (e : Ending) (w' : World) : Prop :=
  (∃ (A : Option Addr) (n c : Nat) (b : Bool), e = .returned (.tuple #[.slice A n c, .bool b]) ∧ (b = true → s.size ≤ 2000 ∧ Txt s ∧ n ≤ s.size)) ∧ Below w.heap.size w w'
theorem units9_full (s : ByteArray) (hs : s.size ≤ 2147483647) (w : World) :
    Calls Try.prog 6 #[.string s] w (U9 s w) := by
  by_cases hbig : 2000 < s.size
  · go_enter Try.func6, Try.ntmps6
    go_wp2_with fail
    go_ret2
    exact ⟨⟨none, 0, 0, false, rfl, fun h => by cases h⟩, Below.refl _ _⟩
  · refine (units9_any s hs w).mono ?_
    rintro e w1 ⟨h, hb⟩
    refine ⟨?_, hb⟩
    rcases h with rfl | ⟨v, l, rfl, hown, -, hle, -, hp⟩
    · exact ⟨none, 0, 0, false, rfl, fun h => by cases h⟩
    · obtain ⟨A, c, rfl⟩ : ∃ A c, v = .slice A l.length c := by
        rcases hown.2 with ⟨rfl, h0⟩ | ⟨g, cap, cur, rfl, _⟩
        · exact ⟨none, 0, by rw [h0]⟩
        · exact ⟨_, cap, rfl⟩
      exact ⟨A, l.length, c, true, rfl, fun _ => ⟨by omega, pts_txt hp, hle⟩⟩

theorem glue_at {t p : ByteArray} {q : List ByteArray} {R : ByteArray} (hR : glue t p q = R) {k : Nat} (hk : k < q.length) : (glue t p (q.take k)).size + (t.size + (q[k]).size) ≤ R.size := by
  have h := glue_size t q p (k + 1)
  rw [List.take_succ_eq_append_getElem hk, glue_snoc, ByteArray.size_append, ByteArray.size_append, hR] at h
  exact h

set_option maxRecDepth 100000 in
set_option maxHeartbeats 3200000 in
theorem replaceSplit_walk (s f t : ByteArray) (hs : s.size ≤ 9223372036854775807) (hf : f.size ≤ 9223372036854775807) (ht : t.size ≤ 9223372036854775807) (w : World) :
    Calls Try.prog 4 #[.string s, .string f, .string t] w fun e w' => e = .returned (.bool true) ∧ Below w.heap.size w w' := by
  by_cases big1 : 2147483647 < s.size
  · have d1 : decide ((2147483647 : Int) < (s.size : Int)) = true := by simp; omega
    go_enter Try.func4, Try.ntmps4
    go_wp2_with fail
    go_ret
    exact ⟨rfl, Below.refl _ _⟩
  have d1 : decide ((2147483647 : Int) < (s.size : Int)) = false := by simp; omega
  by_cases big2 : 2147483647 < f.size
  · have d2 : decide ((2147483647 : Int) < (f.size : Int)) = true := by simp; omega
    go_enter Try.func4, Try.ntmps4
    go_wp2_with fail
    go_ret
    exact ⟨rfl, Below.refl _ _⟩
  have d2 : decide ((2147483647 : Int) < (f.size : Int)) = false := by simp; omega
  by_cases big3 : 2147483647 < t.size
  · have d3 : decide ((2147483647 : Int) < (t.size : Int)) = true := by simp; omega
    go_enter Try.func4, Try.ntmps4
    go_wp2_with fail
    go_ret
    exact ⟨rfl, Below.refl _ _⟩
  have d3 : decide ((2147483647 : Int) < (t.size : Int)) = false := by simp; omega
  go_enter Try.func4, Try.ntmps4
  go_wp2_with fail
  refine (units9_full s (by omega) _).mono ?_
  rintro e w1 ⟨⟨A1, n1, c1, b1, rfl, hx1⟩, hb1⟩
  have X1 := Lib.hid hx1
  have B1 := Lib.hid hb1
  clear hx1 hb1
  go_wp2_with fail
  refine (units9_full f (by omega) _).mono ?_
  rintro e w2 ⟨⟨A2, n2, c2, b2, rfl, hx2⟩, hb2⟩
  have X2 := Lib.hid hx2
  have B2 := Lib.hid (B1.out.trans (hb2.mono B1.out.size))
  clear hx2 hb2
  go_wp2_with fail
  refine (units9_full t (by omega) _).mono ?_
  rintro e w3 ⟨⟨A3, n3, c3, b3, rfl, hx3⟩, hb3⟩
  have X3 := Lib.hid hx3
  have B3 := Lib.hid (B2.out.trans (hb3.mono B2.out.size))
  clear hx3 hb3 B1 B2
  cases b1
  · go_wp2_with fail
    go_ret
    exact ⟨rfl, B3.out⟩
  cases b2
  · go_wp2_with fail
    go_ret
    exact ⟨rfl, B3.out⟩
  cases b3
  · go_wp2_with fail
    go_ret
    exact ⟨rfl, B3.out⟩
  obtain ⟨s1, ts, k1⟩ := X1.out rfl
  obtain ⟨s2, tf, k2⟩ := X2.out rfl
  obtain ⟨s3, tt, -⟩ := X3.out rfl
  have TS := Lib.hid ts
  have TF := Lib.hid tf
  have TT := Lib.hid tt
  clear X1 X2 X3 ts tf tt
  by_cases hn2 : n2 = 0
  · subst hn2
    go_wp2_with fail
    go_ret
    exact ⟨rfl, B3.out⟩
  have h0 : 0 < f.size := by omega
  have e2 : ((n2 : Int) == 0) = false := by simp; omega
  obtain ⟨m, hm⟩ : ∃ m : Nat, s.size * (t.size + 1) = m := ⟨_, rfl⟩
  have hmz : (s.size : Int) * ((t.size : Int) + 1) = (m : Int) := by rw [← hm]; simp
  have hmb : m ≤ 4002000 := by
    have h2 : s.size * (t.size + 1) ≤ 2000 * 2001 := Nat.mul_le_mul s1 (by omega)
    omega
  have HM := Lib.hid hm
  clear hm
  by_cases hbig : 100000 < m
  · go_wp2_with fail
    go_ret
    exact ⟨rfl, B3.out⟩
  obtain ⟨R, hR⟩ : ∃ R, repl f t (s.size + 1) ByteArray.empty s = R := ⟨_, rfl⟩
  obtain ⟨l, hl⟩ : ∃ l, parts f (s.size + 1) s = l := ⟨_, rfl⟩
  have tR : Txt R := by rw [← hR]; exact repl_txt TF.out h0 TT.out _ _ _ Txt.empty TS.out
  have tl : ∀ p ∈ l, Txt p := by rw [← hl]; exact parts_txt TF.out h0 _ _ TS.out
  have nl : 0 < l.length ∧ l.length ≤ 2001 := by
    have := parts_len f h0 (s.size + 1) s
    rw [hl] at this
    omega
  have hsame : repl f f (s.size + 1) ByteArray.empty s = s := by rw [repl_same]; exact ByteArray.empty_append
  have hRs : R.size ≤ 4002000 := by
    have := repl_size f t h0 (s.size + 1) ByteArray.empty s
    rw [hR, HM.out] at this
    have e : ByteArray.empty.size = 0 := rfl
    omega
  obtain ⟨p, q, hp, hq⟩ : ∃ p q, l = p :: q ∧ glue t p q = R := by
    obtain ⟨p, q, h1, h2⟩ := parts_repl f t (s.size + 1) ByteArray.empty s
    rw [hl] at h1
    rw [hR, ByteArray.empty_append] at h2
    exact ⟨p, q, h1, h2.symm⟩
  have KR := Lib.hid (fun w => textReplace_any s f t R w TS.out TF.out TT.out s1 h0 s2 s3 hR tR)
  have KS := Lib.hid (fun w => textSplit_any s f l w TS.out TF.out s1 h0 s2 hl tl nl)
  have KF := Lib.hid (fun w => textReplace_any s f f s w TS.out TF.out TF.out s1 h0 s2 s2 hsame TS.out)
  have HQ := Lib.hid hq
  have HP := Lib.hid hp
  clear hR hl tR tl hsame hq hp
  go_wp2_with fail
  refine (KR.out _).mono ?_
  rintro e w4 ⟨rfl, hb4⟩
  have B4 := Lib.hid (B3.out.trans (hb4.mono B3.out.size))
  clear hb4 B3
  go_wp2_with fail
  refine (KS.out _).mono ?_
  rintro e w5 ⟨v, rfl, ho, hb5⟩
  have B5 := Lib.hid (B4.out.trans (hb5.mono B4.out.size))
  obtain ⟨n, hn⟩ : ∃ n, q.length = n := ⟨_, rfl⟩
  have hll : l.length = n + 1 := by rw [HP.out, List.length_cons, hn]
  rw [hll] at ho
  obtain ⟨g, c, rfl⟩ := own_sl ho (by omega)
  have HO := Lib.hid ho
  have HN := Lib.hid hn
  have hnb : n ≤ 2000 := by omega
  have c0 : w5.cell? ⟨g, 0, none⟩ = some (.string p) := by
    rw [ho.cellAt 0 (by omega), HP.out]; rfl
  have e0 : (((n + 1 : Nat) : Int) == 0) = false := by simp; omega
  clear hb5 B4 ho hn hll nl
  go_wp2_with fail
  go_loop [17, 18] (fun o i => ∃ k : Nat, k ≤ n ∧ i = .int .i64 ((k : Int) + 1) ∧ o = .string (glue t p (q.take k))) (fun _ i => n + 1 - (intOf i).toNat)
  case atStart => exact ⟨0, Nat.zero_le _, rfl, rfl⟩
  case round =>
    obtain ⟨k, hk, rfl, rfl⟩ := hrel
    by_cases hlt : k < n
    · have hkl : k < q.length := by rw [HN.out]; exact hlt
      have hg := glue_at HQ.out hkl
      have c1 : w5.cell? ⟨g, k + 1, none⟩ = some (.string q[k]) := by
        rw [HO.out.cellAt (k + 1) (by omega), HP.out]
        simp [strV, hkl]
      have E1 := Lib.hid (List.take_succ_eq_append_getElem hkl)
      have E2 := Lib.hid (glue_snoc t p (q.take k) q[k])
      generalize q[k] = x at *
      generalize hG : glue t p (q.take k) = G at *
      have HG := Lib.hid hG
      clear hG
      have i0 : (0 : Int) ≤ (k : Int) + 1 := by omega
      have i1 : (k : Int) + 1 < ((n + 1 : Nat) : Int) := by omega
      have i2 : ((k : Int) + 1).toNat = k + 1 := by omega
      go_wp2_with fail
      go_round
      case rel => exact ⟨k + 1, by omega, by go_num, by rw [E1.out, E2.out]⟩
      case measure => simp [intOf]; omega
    · obtain rfl : k = n := by omega
      have hG : glue t p (q.take k) = R := by rw [List.take_of_length_le (by rw [HN.out]; omega), HQ.out]
      rw [hG]
      clear hG
      go_wp2_with fail
      refine (KF.out _).mono ?_
      rintro e w6 ⟨rfl, hb6⟩
      have B6 := Lib.hid (B5.out.trans (hb6.mono B5.out.size))
      clear hb6
      go_wp2_with fail
      go_ret
      exact ⟨rfl, B6.out⟩
end Go.Proofs.Ytijfabahpplimaa
