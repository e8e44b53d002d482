/-
  lexSymbol reads an operator.
-/
import Derived.Test.YtpgmnggicmbacaaDoorSyEmit
import Derived.Test.YtpgmnggicmbacaaDoorSyGc
import Derived.Test.YtpgmnggicmbacaaDoorSyBufK
import Derived.Deep.CutBlock
import Derived.Deep.DeepCutAuto
namespace Go.Proofs.YtpgmnggicmbacaaDoor
open Go.Shelf Go.RowKit
set_option linter.unusedVariables false
set_option linter.unusedSimpArgs false

/-- What lexSymbol leaves: all but the lexer's block as it was, and a token, or none, or an error. -/
def LsPost (b : Nat) (w : World) (R : Option (Option (Int × ByteArray)) → Prop) (e : Ending) (w' : World) : Prop :=
  w.grownBy w' (some b) ∧
    ((∃ t v, e = .returned (.iface t v) ∧ R none) ∨ (e = .returned .nilIface ∧ w'.cell? ⟨b, 4, none⟩ = some (.slice none 0 0) ∧ R (some none)) ∨
      (∃ k d, e = .returned .nilIface ∧ Tok1 b w' k d ∧ R (some (some (k, d)))))
/-- The lexer as makeLexer makes it. -/
def K0 (f g : ByteArray) (src : Option Addr) : LK := ⟨f, g, .pointer src, .slice none 0 0, .slice none 0 0, 0, 1, 1⟩
theorem LexK.c2 {w : World} {b : Nat} {s : ByteArray} {K : LK} {pos : Nat} {ls : Int} (h : LexK w b s K pos ls) : w.cell? ⟨b, 2, none⟩ = some (.string s) := by
  obtain ⟨fr, ln, hB, -⟩ := h
  exact hB.cell 2
theorem LexK.c6 {w : World} {b : Nat} {s : ByteArray} {K : LK} {pos : Nat} {ls : Int} (h : LexK w b s K pos ls) : w.cell? ⟨b, 6, none⟩ = some (.int .i64 K.ts) := by
  obtain ⟨fr, ln, hB, -⟩ := h
  exact hB.cell 6
theorem LexK.c10 {w : World} {b : Nat} {s : ByteArray} {K : LK} {pos : Nat} {ls : Int} (h : LexK w b s K pos ls) : w.cell? ⟨b, 10, none⟩ = some (.int .i64 pos) := by
  obtain ⟨fr, ln, hB, -⟩ := h
  exact hB.cell 10
theorem LexK.c9 {w : World} {b : Nat} {s : ByteArray} {K : LK} {pos : Nat} {ls : Int} (h : LexK w b s K pos ls) : ∃ fr, w.cell? ⟨b, 9, none⟩ = some (.bool fr) := by
  obtain ⟨fr, ln, hB, -⟩ := h
  exact ⟨fr, hB.cell 9⟩
/-- An operator is being read: no line has ended. -/
def OpI (b : Nat) (s : ByteArray) (K : LK) (w0 wr : World) (t : Nat) : Prop := LexK wr b s K t 0 ∧ w0.grownBy wr (some b)
section
variable {b : Nat} {s : ByteArray} {K : LK} {w0 wr w' : World} {t : Nat}
theorem OpI.below (h : OpI b s K w0 wr t) (hb : Below wr.heap.size wr w') : OpI b s K w0 w' t := ⟨h.1.below hb, grown_trans h.2 (grown_below hb _)⟩
theorem OpI.tabs (h : OpI b s K w0 wr t) (hT : TabsAt b w0) (hl : b < w0.heap.size) : Lib.Utf8Tabs 0 1 wr := (hT.grown h.2 hl).tabs
theorem OpI.nextC (h : OpI b s K w0 wr t) (hs : s.size ≤ 1000000) (ht : t < s.size) (hb : by_ s t < 128) (h10 : by_ s t ≠ 10) (hT : TabsAt b w0) (hl : b < w0.heap.size) :
    Calls Tryd.prog 60 #[.pointer (some ⟨b, 0, none⟩)] wr (fun e w' => e = .returned (.int .i32 (by_ s t : Int)) ∧ OpI b s K w0 w' (t + 1)) := by
  obtain ⟨p1, p2⟩ := peek_by ht hb
  refine (nextK b s K t 0 hs (by omega) wr h.1 (h.tabs hT hl)).mono ?_
  rintro e w' ⟨rfl, h3, h4⟩
  have hls : lsN s t 0 = 0 := by unfold lsN; rw [if_neg (by rw [p1]; omega)]
  rw [p2, hls] at h3
  rw [p1]
  exact ⟨rfl, h3, grown_trans h.2 h4⟩
theorem OpI.peekC (h : OpI b s K w0 wr t) (hT : TabsAt b w0) (hl : b < w0.heap.size) :
    Calls Tryd.prog 58 #[.pointer (some ⟨b, 0, none⟩)] wr (fun e w' => e = .returned (.int .i32 (peekR s t)) ∧ OpI b s K w0 w' t) := by
  refine (peek_any b s t wr h.1.lexer (h.tabs hT hl)).mono ?_
  rintro e w' ⟨rfl, hb⟩
  exact ⟨rfl, h.below hb⟩
end
theorem goI_peek {s : ByteArray} {t : Nat} (h : ([33, 36, 58, 126, 43, 45, 38, 124, 94, 61, 60, 62, 42, 47, 37] : List Int).contains (peekR s t) = true) : t < s.size ∧ opB (by_ s t) = true ∧ peekR s t = (by_ s t : Int) := by
  have key : ∀ c : Nat, c < 128 → peekR s t = (c : Int) → opB c = true → t < s.size ∧ opB (by_ s t) = true ∧ peekR s t = (by_ s t : Int) := fun c hc he ho => by
    obtain ⟨h1, h2⟩ := (peek_is hc).1 he
    rw [h2]
    exact ⟨h1, ho, he⟩
  simp only [List.contains_cons, List.contains_nil, Bool.or_false, Bool.or_eq_true, beq_iff_eq] at h
  rcases h with h | h | h | h | h | h | h | h | h | h | h | h | h | h | h
  · exact key 33 (by omega) h rfl
  · exact key 36 (by omega) h rfl
  · exact key 58 (by omega) h rfl
  · exact key 126 (by omega) h rfl
  · exact key 43 (by omega) h rfl
  · exact key 45 (by omega) h rfl
  · exact key 38 (by omega) h rfl
  · exact key 124 (by omega) h rfl
  · exact key 94 (by omega) h rfl
  · exact key 61 (by omega) h rfl
  · exact key 60 (by omega) h rfl
  · exact key 62 (by omega) h rfl
  · exact key 42 (by omega) h rfl
  · exact key 47 (by omega) h rfl
  · exact key 37 (by omega) h rfl
theorem opB_cases {c : Nat} (h : opB c = true) : c = 33 ∨ c = 36 ∨ c = 58 ∨ c = 126 ∨ c = 43 ∨ c = 45 ∨ c = 38 ∨ c = 124 ∨ c = 94 ∨ c = 61 ∨ c = 60 ∨ c = 62 ∨ c = 42 ∨ c = 47 ∨ c = 37 := by
  unfold opB at h
  simpa [or_assoc] using h
theorem opB_low {c : Nat} (h : opB c = true) : c < 128 ∧ c ≠ 10 ∧ c ≠ 35 := by
  rcases opB_cases h with rfl | rfl | rfl | rfl | rfl | rfl | rfl | rfl | rfl | rfl | rfl | rfl | rfl | rfl | rfl <;> decide
/-- Not a symbol: the package's operator ends here. -/
theorem goI_stop {s : ByteArray} {t : Nat} (h : ([33, 36, 58, 126, 43, 45, 38, 124, 94, 61, 60, 62, 42, 47, 37] : List Int).contains (peekR s t) = false) : goI (by_ s) s.size t = false := by
  unfold goI
  by_cases ht : t < s.size
  · cases ho : opB (by_ s t)
    · simp
    · exfalso
      obtain ⟨hl, -, -⟩ := opB_low ho
      have hp := (peek_by ht hl).1
      have hc := opB_cases ho
      rw [hp] at h
      simp only [List.contains_cons, List.contains_nil, Bool.or_false, Bool.or_eq_false_iff, beq_eq_false_iff_ne] at h
      omega
  · simp [ht]
end Go.Proofs.YtpgmnggicmbacaaDoor
