/-
  lexSymbol reads an operator (ground). (Printed by wip/gen_symop.py.)
-/
import Derived.Test.YtpgmnggicmbacaaDoorSyEmitT
import Derived.Test.YtpgmnggicmbacaaDoorLater
namespace Go.Proofs.YtpgmnggicmbacaaDoor
open Go.Shelf Go.RowKit
set_option linter.unusedVariables false
set_option linter.unusedSimpArgs false

theorem pre_rest1 (s t : ByteArray) (i : Nat) (hs : s.size ≤ 1000000) (ht : t.size ≤ 1000) (hi : i ≤ s.size) (w : World) :
    Calls Tryd.prog 75 #[.string (s.extract i s.size), .string t] w fun e w' => e = .returned (.bool (stG s t i)) ∧ Below w.heap.size w w' := by
  refine (hasPre_any (s.extract i s.size) t (by rw [ByteArray.size_extract]; omega) (by omega) w).mono ?_
  rintro e w' ⟨rfl, rfl⟩
  rw [pre_rest s t i hi]
  exact ⟨rfl, Below.refl _ _⟩
/-- The lexer wound back. -/
def WdI (b : Nat) (s : ByteArray) (K : LK) (w0 wr : World) (j : Nat) : Prop := LexW wr b s K j 0 ∧ w0.grownBy wr (some b)
theorem WdI.to {b : Nat} {s : ByteArray} {K : LK} {w0 wr : World} {j : Nat} (h : WdI b s K w0 wr j) (q : Nat) {v : Int} (hv : v = (q : Int)) : WdI b s K w0 (wr.setCell ⟨b, 10, none⟩ (.int .i64 v)) q := by
  subst hv
  obtain ⟨⟨fr, ln, hB, h1, h2⟩, h3⟩ := h
  exact ⟨⟨fr, ln, by simpa [cellsX] using hB.set_ 10 (.int .i64 q), by omega, by omega⟩, grown_set h3 _ _⟩
theorem WdI.below {b : Nat} {s : ByteArray} {K : LK} {w0 wr w' : World} {j : Nat} (h : WdI b s K w0 wr j) (hb : Below wr.heap.size wr w') : WdI b s K w0 w' j := ⟨h.1.below hb, grown_trans h.2 (grown_below hb _)⟩
theorem WdI.frozen {b : Nat} {s : ByteArray} {K : LK} {w0 wr : World} {j : Nat} (h : WdI b s K w0 wr j) : wr.frozen? ⟨b, 10, none⟩ = false := by
  obtain ⟨⟨fr, ln, hB, -⟩, -⟩ := h
  exact hB.frozen 10
theorem WdI.pos {b : Nat} {s : ByteArray} {K : LK} {w0 wr : World} {j : Nat} (h : WdI b s K w0 wr j) : lexPos b wr = j := by
  have c := h.1.cells3.2.2
  unfold lexPos
  rw [c]
  rfl
theorem OpI.pos {b : Nat} {s : ByteArray} {K : LK} {w0 wr : World} {j : Nat} (h : OpI b s K w0 wr j) : lexPos b wr = j := h.1.lexer.pos
theorem goI_slash {s : ByteArray} {t : Nat} (h : by_ s t = 47) : goI (by_ s) s.size t = false := by
  unfold goI
  simp [h]
theorem goI_bars {s : ByteArray} {t : Nat} (h : stG s ⟨#[124, 124]⟩ t = true) : goI (by_ s) s.size t = false := by
  have h1 := stG2 s t 124 124 (by omega) (by omega)
  rw [show (⟨#[UInt8.ofNat 124, UInt8.ofNat 124]⟩ : ByteArray) = ⟨#[124, 124]⟩ from rfl, h] at h1
  unfold goI
  rw [← h1]
  simp
theorem goI_on {s : ByteArray} {t : Nat} (h1 : t < s.size) (h2 : opB (by_ s t) = true) (h3 : by_ s t ≠ 47) (h4 : by_ s t = 124 → stG s ⟨#[124, 124]⟩ t = false) : goI (by_ s) s.size t = true := by
  have h5 := stG2 s t 124 124 (by omega) (by omega)
  rw [show (⟨#[UInt8.ofNat 124, UInt8.ofNat 124]⟩ : ByteArray) = ⟨#[124, 124]⟩ from rfl] at h5
  unfold goI
  simp only [h1, h2, decide_true, Bool.true_and, Bool.and_eq_true, Bool.not_eq_true', beq_eq_false_iff_ne, ne_eq]
  refine ⟨h3, ?_⟩
  rw [← h5]
  by_cases hx : by_ s t = 124
  · exact h4 hx
  · rw [h5]
    unfold two
    simp [hx]
theorem goI_yes {s : ByteArray} {t : Nat} (h : goI (by_ s) s.size t = true) : t < s.size ∧ opB (by_ s t) = true ∧ peekR s t = (by_ s t : Int) ∧ ([33, 36, 58, 126, 43, 45, 38, 124, 94, 61, 60, 62, 42, 47, 37] : List Int).contains (peekR s t) = true ∧ by_ s t ≠ 47 ∧ stG s ⟨#[124, 124]⟩ t = false := by
  have h5 := stG2 s t 124 124 (by omega) (by omega)
  rw [show (⟨#[UInt8.ofNat 124, UInt8.ofNat 124]⟩ : ByteArray) = ⟨#[124, 124]⟩ from rfl] at h5
  unfold goI at h
  simp only [Bool.and_eq_true, Bool.not_eq_true', decide_eq_true_eq, beq_eq_false_iff_ne, ne_eq] at h
  obtain ⟨⟨⟨h1, h2⟩, h3⟩, h4⟩ := h
  obtain ⟨hl, -, -⟩ := opB_low h2
  have hp := (peek_by h1 hl).1
  refine ⟨h1, h2, hp, ?_, h3, by rw [h5, h4]⟩
  rw [hp]
  rcases opB_cases h2 with e | e | e | e | e | e | e | e | e | e | e | e | e | e | e <;> (rw [e]; rfl)
theorem goI_ex {s : ByteArray} : ∀ (n t : Nat), 1 ≤ t → t ≤ s.size → s.size - t ≤ n → (∀ i, 1 ≤ i → i < t → goI (by_ s) s.size i = true) → ∃ T, Stop (goI (by_ s) s.size) T ∧ T ≤ s.size
  | 0, t, h1, h2, h3, h4 => ⟨t, ⟨h1, h4, by unfold goI; simp; omega⟩, h2⟩
  | n + 1, t, h1, h2, h3, h4 => by
    cases hg : goI (by_ s) s.size t
    · exact ⟨t, ⟨h1, h4, hg⟩, h2⟩
    · have hlt := (goI_yes hg).1
      refine goI_ex n (t + 1) (by omega) hlt (by omega) (fun i k1 k2 => ?_)
      rcases Nat.lt_or_ge i t with g | g
      · exact h4 i k1 g
      · obtain rfl : i = t := by omega
        exact hg
/-- Why the package's operator ends at a place. -/
def Why (s : ByteArray) (c : Nat) (T : Nat) : Prop :=
  match c with
  | 0 => ([33, 36, 58, 126, 43, 45, 38, 124, 94, 61, 60, 62, 42, 47, 37] : List Int).contains (peekR s T) = false
  | 1 => T < s.size ∧ by_ s T = 47
  | _ => T < s.size ∧ by_ s T = 124 ∧ stG s ⟨#[124, 124]⟩ T = true
theorem why_ex {s : ByteArray} {T : Nat} (h : goI (by_ s) s.size T = false) : Why s 0 T ∨ Why s 1 T ∨ Why s 2 T := by
  cases hc : ([33, 36, 58, 126, 43, 45, 38, 124, 94, 61, 60, 62, 42, 47, 37] : List Int).contains (peekR s T)
  · exact .inl hc
  · obtain ⟨h1, h2, h3⟩ := goI_peek hc
    right
    have h5 := stG2 s T 124 124 (by omega) (by omega)
    rw [show (⟨#[UInt8.ofNat 124, UInt8.ofNat 124]⟩ : ByteArray) = ⟨#[124, 124]⟩ from rfl] at h5
    unfold goI at h
    simp only [h1, h2, decide_true, Bool.true_and, Bool.and_eq_false_iff, Bool.not_eq_false', beq_iff_eq] at h
    rcases h with h | h
    · exact .inl ⟨h1, h⟩
    · refine .inr ⟨h1, ?_, by rw [h5, h]⟩
      unfold two at h
      simp only [Bool.and_eq_true, decide_eq_true_eq, beq_iff_eq] at h
      exact h.1.2
theorem slash_at {s : ByteArray} {t : Nat} (h1 : t < s.size) (h : by_ s t = 47) : stG s ⟨#[47]⟩ t = true := by
  rw [show (⟨#[47]⟩ : ByteArray) = ⟨#[UInt8.ofNat 47]⟩ from rfl, stG1 s t 47 (by omega)]
  simp [h1, h]
theorem windB_cases {c : Nat} (h : windB c = true) : c = 43 ∨ c = 45 ∨ c = 126 ∨ c = 33 ∨ c = 36 := by
  unfold windB at h
  simpa [or_assoc] using h
theorem windB_not {c : Nat} (h : windB c = false) : c ≠ 43 ∧ c ≠ 45 ∧ c ≠ 126 ∧ c ≠ 33 ∧ c ≠ 36 := by
  refine ⟨?_, ?_, ?_, ?_, ?_⟩ <;> (rintro rfl; cases h)
def WdOk (s : ByteArray) (t j : Nat) : Prop := windB (by_ s (t - 1)) = false → j = t
def OpR (s : ByteArray) (r : Option (Option (Int × ByteArray))) : Prop := ∃ t, Stop (goI (by_ s) s.size) t ∧ r = some (some (if s.extract 0 (woundI (by_ s) t) = dollarT then 5 else 12, s.extract 0 (woundI (by_ s) t)))
theorem OpR.yes {s d : ByteArray} {t j : Nat} {k : Int} (hS : Stop (goI (by_ s) s.size) t) (hj : j = woundI (by_ s) t) (hd : d = s.extract 0 j) (hk : k = if s.extract 0 j = dollarT then 5 else 12) : OpR s (some (some (k, d))) := by
  refine ⟨t, hS, ?_⟩
  rw [hk, hd, hj]
end Go.Proofs.YtpgmnggicmbacaaDoor
