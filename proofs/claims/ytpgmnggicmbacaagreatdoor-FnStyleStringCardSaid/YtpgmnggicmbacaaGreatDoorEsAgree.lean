/-
  Where the language is sure of a text with escapes, the package says the same of it; what the package makes of it is UTF-8.
-/
import Derived.Test.YtpgmnggicmbacaaGreatDoorEsLaw
namespace Go.Proofs.YtpgmnggicmbacaaGreatDoor
open Go.RowKit

/-- From a place on a text is UTF-8. -/
inductive Tail (s : ByteArray) : Nat → Prop
  | done : Tail s s.size
  | more {i r n : Nat} (hp : PtOk s i r n) (h : Tail s (i + n)) : Tail s i
theorem tail_of_pts {s : ByteArray} {i : Nat} {l : List Nat} (h : Pts s i l) : Tail s i → Tail s 0 := by
  induction h with
  | nil => exact id
  | snoc h hp ih => exact fun t => ih (.more hp t)
theorem Tail.step {s : ByteArray} {i : Nat} (h : Tail s i) (hlt : i < s.size) : ∃ r n, PtOk s i r n ∧ Tail s (i + n) := by
  cases h with
  | done => omega
  | more hp h => exact ⟨_, _, hp, h⟩
theorem pt_at {s : ByteArray} {i r n : Nat} (h : PtOk s i r n) : Scal r ∧ (encB r).length = n ∧ At s i (encB r) := by
  obtain ⟨e1, e2⟩ := pt_enc h
  have hn := h.2.1
  have hl : (encB r).length = n := by
    rw [← encB_enc e2, ← e1, size_list, cut_size hn]
  refine ⟨e2, hl, by omega, fun k hk => ?_⟩
  rw [← by_cut (s := s) (i := i) (n := n) (k := k) hn (by omega), e1, by_data, ← data_get, encB_enc e2]
  rfl
theorem encB_first {r : Nat} (hs : Scal r) (h : 128 ≤ r) : ∃ b bs, encB r = b :: bs ∧ 128 ≤ b.toNat := by
  unfold Scal at hs
  unfold encB
  rw [if_neg (by omega)]
  repeat' split
  all_goals exact ⟨_, _, rfl, by rw [u8_nat (by omega)]; omega⟩
/-- What stands first tells whether it is one byte. -/
theorem pt_low {s : ByteArray} {i r n : Nat} (h : PtOk s i r n) (hb : by_ s i < 128) : r = by_ s i ∧ n = 1 := by
  have hlt : i < s.size := by have := h.1; have := h.2.1; omega
  have := (decode1 hlt hb).2.2.1
  rw [h.2.2.1] at this
  injection this with e1 e2
  exact ⟨e1, e2⟩
theorem pt_high {s : ByteArray} {i r n : Nat} (h : PtOk s i r n) (hb : 128 ≤ by_ s i) : 128 ≤ r := by
  obtain ⟨hs, hl, hat⟩ := pt_at h
  rcases Nat.lt_or_ge r 128 with h1 | h1
  · rw [encB_low h1] at hat
    have := hat.head.2
    rw [u8_nat (by omega)] at this
    omega
  · exact h1
theorem Tail.ascii {s : ByteArray} {i : Nat} (h : Tail s i) (hlt : i < s.size) (hb : by_ s i < 128) : Tail s (i + 1) := by
  obtain ⟨r, n, hp, ht⟩ := h.step hlt
  obtain ⟨-, rfl⟩ := pt_low hp hb
  exact ht
theorem hexV_low {c d : Nat} (h : hexV c = some d) : c < 128 := by
  unfold hexV at h
  repeat' split at h
  all_goals first | omega | (cases h)
theorem Tail.hex {s : ByteArray} {i x : Nat} (h : Tail s i) (hx : hx4 s i = some x) : i + 4 ≤ s.size ∧ Tail s (i + 4) := by
  unfold hx4 at hx
  split at hx
  · rename_i hle
    refine ⟨hle, ?_⟩
    simp only [hxk, Option.bind_eq_some_iff, Option.map_eq_some_iff] at hx
    obtain ⟨a3, ⟨a2, ⟨a1, ⟨a0, h0, d0, v0, rfl⟩, d1, v1, rfl⟩, d2, v2, rfl⟩, d3, v3, rfl⟩ := hx
    have t1 := h.ascii (by omega) (hexV_low v0)
    have t2 := t1.ascii (by omega) (hexV_low v1)
    have t3 := t2.ascii (by omega) (hexV_low v2)
    exact t3.ascii (by omega) (hexV_low v3)
  · cases hx
theorem runS_false {s : ByteArray} : ∀ (f i : Nat) (acc : List UInt8), (runS s f i acc false).2 = false
  | 0, _, _ => rfl
  | f + 1, i, acc => by
    rw [runS]
    split
    · cases h : stepS s i with
      | none => rfl
      | some x =>
        obtain ⟨j, bs, ok⟩ := x
        exact runS_false f j _
    · rfl
theorem escS_low {c y : Nat} (h : escS c = some y) : c < 128 ∧ y < 128 := by
  unfold escS at h
  repeat' split at h
  all_goals first | (injection h with h; omega) | (cases h)
theorem startsU_at {s : ByteArray} {i : Nat} (h : startsU s i = true) : i + 2 ≤ s.size ∧ by_ s i = 92 ∧ by_ s (i + 1) = 117 := by
  unfold startsU at h
  simp only [Bool.and_eq_true, decide_eq_true_eq, beq_iff_eq] at h
  exact ⟨h.1.1, h.1.2, h.2⟩
theorem agree {s : ByteArray} : ∀ (m i fS fP : Nat) (acc : List UInt8), s.size - i ≤ m → i ≤ s.size → Tail s i → s.size ≤ i + fS → s.size ≤ i + fP → (runS s fS i acc true).2 = true → runP s fP i acc = (runS s fS i acc true).1 := by
  intro m
  induction m with
  | zero =>
    intro i fS fP acc hm hi _ _ _ _
    obtain rfl : i = s.size := by omega
    have e1 : runP s fP s.size acc = some acc := by
      cases fP with
      | zero => rfl
      | succ f => rw [runP, if_neg (by omega)]
    have e2 : (runS s fS s.size acc true).1 = some acc := by
      cases fS with
      | zero => rfl
      | succ f => rw [runS, if_neg (by omega)]
    rw [e1, e2]
  | succ m ih =>
    intro i fS fP acc hm hi ht hfS hfP hsure
    rcases Nat.lt_or_ge i s.size with hlt | hge
    · obtain ⟨gS, rfl⟩ : ∃ g, fS = g + 1 := ⟨fS - 1, by omega⟩
      obtain ⟨gP, rfl⟩ : ∃ g, fP = g + 1 := ⟨fP - 1, by omega⟩
      obtain ⟨r, n, hp, ht1⟩ := ht.step hlt
      obtain ⟨hs, hl, hat⟩ := pt_at hp
      have hn1 := hp.1
      have hn2 := hp.2.1
      rw [runP_step hlt]
      by_cases c1 : r = 92
      · subst c1
        have hat' : At s i [92] := hat
        have b0 : by_ s i = 92 := hat'.head.2
        obtain ⟨-, rfl⟩ := pt_low hp (by omega)
        by_cases c2 : s.size ≤ i + 1
        · have eS : stepS s i = none := by unfold stepS; rw [if_pos b0, if_pos c2]
          have eP : stepP s i = none := by unfold stepP; simp only [hp.2.2.1, if_true]; rw [if_pos c2]
          rw [runS, if_pos hlt, eS, eP]
          rfl
        obtain ⟨r2, n2, hp2, ht2⟩ := ht1.step (by omega)
        rcases Nat.lt_or_ge (by_ s (i + 1)) 128 with hb | hb
        · obtain ⟨rfl, rfl⟩ := pt_low hp2 hb
          have eP : stepP s i = stepB s (i + 2) (by_ s (i + 1)) := stepP_esc hp.2.2.1 (by omega) hp2.2.2.1
          rw [eP]
          unfold stepB
          by_cases c3 : by_ s (i + 1) = 117
          · rw [if_pos c3]
            cases hx : hx4 s (i + 2) with
            | none =>
              have eS : stepS s i = none := by unfold stepS; rw [if_pos b0, if_neg c2, if_pos c3]; unfold uniF; rw [hx]
              rw [runS, if_pos hlt, eS]
              split <;> rfl
            | some x =>
              obtain ⟨hle, ht4⟩ := Tail.hex (show Tail s (i + 2) from ht2) hx
              have hx16 := hx4_lt hx
              rw [if_neg (by omega)]
              show contP s gP acc (stepC s (i + 2) x) = _
              have eS : stepS s i = (uniF s (i + 2)).map fun q => (i + 2 + q.2, encB q.1, decide (q.1 < 55296) || decide (57344 ≤ q.1)) := by
                unfold stepS
                rw [if_pos b0, if_neg c2, if_pos c3]
                cases uniF s (i + 2) <;> rfl
              unfold stepC
              by_cases c4 : 55296 ≤ x ∧ x < 57344
              · rw [if_pos c4]
                have bad : uniF s (i + 2) = some (x, 4) → False := fun hu => by
                  rw [hu] at eS
                  have e5 : (decide (x < 55296) || decide (57344 ≤ x)) = false := by simp; omega
                  rw [show (some (x, 4) : Option (Nat × Nat)).map (fun q => (i + 2 + q.2, encB q.1, decide (q.1 < 55296) || decide (57344 ≤ q.1))) = some (i + 2 + 4, encB x, decide (x < 55296) || decide (57344 ≤ x)) from rfl, e5] at eS
                  rw [runS_step hlt eS, Bool.and_false, runS_false] at hsure
                  cases hsure
                by_cases c5 : 56320 ≤ x
                · exact (bad (by unfold uniF; rw [hx]; simp only; rw [if_pos (.inr c5)])).elim
                cases hu : startsU s (i + 2 + 4) with
                | false => exact (bad (by unfold uniF; rw [hx]; simp only; rw [if_neg (by omega), if_pos hu])).elim
                | true =>
                  cases hy : hx4 s (i + 2 + 6) with
                  | none => exact (bad (by unfold uniF; rw [hx]; simp only; rw [if_neg (by omega), if_neg (by rw [hu]; decide), hy])).elim
                  | some d =>
                    by_cases c6 : d < 56320 ∨ 57344 ≤ d
                    · exact (bad (by unfold uniF; rw [hx]; simp only; rw [if_neg (by omega), if_neg (by rw [hu]; decide), hy]; simp only; rw [if_pos c6])).elim
                    have hu2 : uniF s (i + 2) = some (65536 + (x - 55296) * 1024 + (d - 56320), 10) := by
                      unfold uniF
                      rw [hx]
                      simp only
                      rw [if_neg (by omega), if_neg (by rw [hu]; decide), hy]
                      simp only
                      rw [if_neg c6]
                    obtain ⟨q1, q2, q3⟩ := startsU_at hu
                    have t5 := ht4.ascii (by omega) (by omega)
                    have t6 := t5.ascii (by omega) (by omega)
                    obtain ⟨hle2, t7⟩ := Tail.hex (show Tail s (i + 2 + 6) from t6) hy
                    have hpr : pairR x d = 65536 + (x - 55296) * 1024 + (d - 56320) := by unfold pairR; rw [if_pos (by omega)]
                    have hsc : Scal (65536 + (x - 55296) * 1024 + (d - 56320)) := by unfold Scal; omega
                    rw [if_neg (by omega), if_neg (by decide)]
                    show runP s gP (i + 2 + 10) (acc ++ Lib.encodeRune (pairR x d : Nat)) = _
                    rw [hu2] at eS
                    have e5 : (decide (65536 + (x - 55296) * 1024 + (d - 56320) < 55296) || decide (57344 ≤ 65536 + (x - 55296) * 1024 + (d - 56320))) = true := by simp; omega
                    rw [show (some (65536 + (x - 55296) * 1024 + (d - 56320), 10) : Option (Nat × Nat)).map (fun q => (i + 2 + q.2, encB q.1, decide (q.1 < 55296) || decide (57344 ≤ q.1))) = some (i + 2 + 10, encB (65536 + (x - 55296) * 1024 + (d - 56320)), decide (65536 + (x - 55296) * 1024 + (d - 56320) < 55296) || decide (57344 ≤ 65536 + (x - 55296) * 1024 + (d - 56320))) from rfl, e5] at eS
                    rw [runS_step hlt eS, Bool.and_true] at hsure ⊢
                    rw [hpr, encB_rune hsc]
                    exact ih _ _ _ _ (by omega) (by omega) t7 (by omega) (by omega) hsure
              · rw [if_neg c4]
                have hu : uniF s (i + 2) = some (x, 4) := by unfold uniF; rw [hx]; simp only; rw [if_pos (by omega)]
                have hsc : Scal x := by unfold Scal; omega
                rw [hu] at eS
                have e5 : (decide (x < 55296) || decide (57344 ≤ x)) = true := by simp; omega
                rw [show (some (x, 4) : Option (Nat × Nat)).map (fun q => (i + 2 + q.2, encB q.1, decide (q.1 < 55296) || decide (57344 ≤ q.1))) = some (i + 2 + 4, encB x, decide (x < 55296) || decide (57344 ≤ x)) from rfl, e5] at eS
                show runP s gP (i + 2 + 4) (acc ++ Lib.encodeRune (x : Nat)) = _
                rw [runS_step hlt eS, Bool.and_true] at hsure ⊢
                rw [encB_rune hsc]
                exact ih _ _ _ _ (by omega) (by omega) ht4 (by omega) (by omega) hsure
          · rw [if_neg c3]
            cases he : escS (by_ s (i + 1)) with
            | none =>
              have eS : stepS s i = none := by unfold stepS; rw [if_pos b0, if_neg c2, if_neg c3, he]
              rw [runS, if_pos hlt, eS]
              rfl
            | some y =>
              have eS : stepS s i = some (i + 2, [UInt8.ofNat y], true) := by unfold stepS; rw [if_pos b0, if_neg c2, if_neg c3, he]
              have hy := (escS_low he).2
              show runP s gP (i + 2) (acc ++ Lib.encodeRune (y : Nat)) = _
              rw [runS_step hlt eS, Bool.and_true] at hsure ⊢
              rw [encB_rune (show Scal y by unfold Scal; omega), encB_low hy]
              exact ih _ _ _ _ (by omega) (by omega) ht2 (by omega) (by omega) hsure
        · have hr2 := pt_high hp2 hb
          have eS : stepS s i = none := by
            unfold stepS
            rw [if_pos b0, if_neg c2, if_neg (by omega)]
            cases he : escS (by_ s (i + 1)) with
            | none => rfl
            | some y => have := (escS_low he).1; omega
          have eP : stepP s i = none := by
            unfold stepP
            simp only [hp.2.2.1, if_true]
            rw [if_neg c2, hp2.2.2.1]
            unfold stepB
            simp only
            rw [if_neg (by omega)]
            cases he : escS r2 with
            | none => rfl
            | some y => have := (escS_low he).1; omega
          rw [runS, if_pos hlt, eS, eP]
          rfl
      · have eP : stepP s i = some (i + n, encB r) := by
          unfold stepP
          rw [hp.2.2.1]
          simp only
          rw [if_neg c1, encB_rune hs]
        rw [eP]
        show runP s gP (i + n) (acc ++ encB r) = _
        obtain ⟨g, hg⟩ : ∃ g, gS + 1 = (encB r).length + g := ⟨gS + 1 - (encB r).length, by omega⟩
        rw [hg, runS_plain _ _ _ _ hat (plain_ne hs c1), hl] at hsure ⊢
        exact ih _ _ _ _ (by omega) (by omega) ht1 (by omega) (by omega) hsure
    · exact (by
        obtain rfl : i = s.size := by omega
        have e1 : runP s fP s.size acc = some acc := by
          cases fP with
          | zero => rfl
          | succ f => rw [runP, if_neg (by omega)]
        have e2 : (runS s fS s.size acc true).1 = some acc := by
          cases fS with
          | zero => rfl
          | succ f => rw [runS, if_neg (by omega)]
        rw [e1, e2])
theorem agree_all {s : ByteArray} {l : List Nat} (h : Pts s s.size l) (hs : (runS s s.size 0 [] true).2 = true) : runP s s.size 0 [] = (runS s s.size 0 [] true).1 :=
  agree s.size 0 s.size s.size [] (by omega) (by omega) (tail_of_pts h .done) (by omega) (by omega) hs
/-- What is written of a rune is the text of a code point. -/
theorem rune_scal (r : Nat) : ∃ q, Scal q ∧ Lib.encodeRune (r : Nat) = encB q := by
  by_cases h : Scal r
  · exact ⟨r, h, encB_rune h⟩
  · refine ⟨65533, by unfold Scal; omega, ?_⟩
    unfold Scal at h
    unfold Lib.encodeRune
    rw [Lib.encodeRuneZ_bad (by omega)]
    rfl
theorem stepP_scal {s : ByteArray} {i j : Nat} {bs : List UInt8} (h : stepP s i = some (j, bs)) : ∃ q, Scal q ∧ bs = encB q := by
  have key : ∀ (k r : Nat) , (some (k, Lib.encodeRune (r : Nat)) : Option (Nat × List UInt8)) = some (j, bs) → ∃ q, Scal q ∧ bs = encB q := fun k r e => by
    injection e with e
    injection e with _ e
    obtain ⟨q, h1, h2⟩ := rune_scal r
    exact ⟨q, h1, by rw [← e, h2]⟩
  unfold stepP at h
  split at h
  · split at h
    · cases h
    · unfold stepB at h
      split at h
      · split at h
        · cases h
        · simp only [Option.bind_eq_some_iff] at h
          obtain ⟨c, -, h⟩ := h
          unfold stepC at h
          split at h
          · split at h
            · cases h
            · split at h
              · cases h
              · simp only [Option.map_eq_some_iff] at h
                obtain ⟨d, -, h⟩ := h
                exact key _ _ (congrArg some h)
          · exact key _ _ h
      · simp only [Option.map_eq_some_iff] at h
        obtain ⟨d, -, h⟩ := h
        exact key _ _ (congrArg some h)
  · exact key _ _ h
theorem runP_scal {s : ByteArray} : ∀ (f i : Nat) (l : List Nat) (out : List UInt8), (∀ r ∈ l, Scal r) → runP s f i (bytesB l) = some out → ∃ m, (∀ r ∈ m, Scal r) ∧ out = bytesB m
  | 0, i, l, out, hl, h => ⟨l, hl, by injection h with h; exact h.symm⟩
  | f + 1, i, l, out, hl, h => by
    by_cases hlt : i < s.size
    · rw [runP_step hlt] at h
      cases hs : stepP s i with
      | none => rw [hs] at h; cases h
      | some x =>
        obtain ⟨j, bs⟩ := x
        rw [hs] at h
        obtain ⟨q, h1, rfl⟩ := stepP_scal hs
        have e : bytesB l ++ encB q = bytesB (l ++ [q]) := by simp [bytesB]
        have h' : runP s f j (bytesB l ++ encB q) = some out := h
        rw [e] at h'
        exact runP_scal f j (l ++ [q]) out (fun x hx => by
          rw [List.mem_append, List.mem_singleton] at hx
          rcases hx with hx | rfl
          · exact hl x hx
          · exact h1) h'
    · rw [runP, if_neg hlt] at h
      exact ⟨l, hl, by injection h with h; exact h.symm⟩
/-- Bytes of code points read as these code points. -/
theorem pts_bytesB (l2 : List Nat) : ∀ (l1 : List Nat) (E : ByteArray), (∀ r ∈ l2, Scal r) → E = ⟨(bytesB (l1 ++ l2)).toArray⟩ → Pts E (bytesB l1).length l1 → Pts E (bytesB (l1 ++ l2)).length (l1 ++ l2) := by
  induction l2 with
  | nil => intro l1 E _ _ h; simpa using h
  | cons r l2 ih =>
    intro l1 E hs hE h
    have e1 : l1 ++ r :: l2 = (l1 ++ [r]) ++ l2 := by simp
    have hat : At E (bytesB l1).length (encB r) := by
      have := at_mid (bytesB l1) (encB r) (bytesB l2)
      rw [hE]
      have e3 : bytesB (l1 ++ r :: l2) = bytesB l1 ++ encB r ++ bytesB l2 := by simp [bytesB]
      rw [e3]
      exact this
    have hp := hat.pt (hs r (by simp))
    have h2 := Pts.snoc h hp
    have e2 : (bytesB l1).length + (encB r).length = (bytesB (l1 ++ [r])).length := by simp [bytesB]
    rw [e2] at h2
    rw [e1]
    exact ih (l1 ++ [r]) E (fun x hx => hs x (by simp [hx])) (by rw [hE, e1]) h2
theorem out_pts {s : ByteArray} {v : List UInt8} (h : runP s s.size 0 [] = some v) : ∃ l, Pts ⟨v.toArray⟩ (⟨v.toArray⟩ : ByteArray).size l ∧ v = bytesB l := by
  obtain ⟨m, h1, rfl⟩ := runP_scal s.size 0 [] v (fun _ h => absurd h List.not_mem_nil) (by simpa [bytesB] using h)
  refine ⟨m, ?_, rfl⟩
  have := pts_bytesB m [] ⟨(bytesB m).toArray⟩ h1 (by simp) (by simpa [bytesB] using Pts.nil)
  have hs : (⟨(bytesB m).toArray⟩ : ByteArray).size = (bytesB m).length := List.size_toArray
  rw [hs]
  simpa using this
end Go.Proofs.YtpgmnggicmbacaaGreatDoor
