/-
  lexSymbol: what it leaves, for every text that begins with a symbol.
-/
import Derived.Test.YtpgmnggicmbacaaDoorSySymOpA0
import Derived.Test.YtpgmnggicmbacaaDoorSySymOpA1
import Derived.Test.YtpgmnggicmbacaaDoorSySymOpA2
import Derived.Test.YtpgmnggicmbacaaDoorSySymOpB0
import Derived.Test.YtpgmnggicmbacaaDoorSySymOpB1
import Derived.Test.YtpgmnggicmbacaaDoorSySymOpB2
import Derived.Test.YtpgmnggicmbacaaDoorSySymOpC0
import Derived.Test.YtpgmnggicmbacaaDoorSySymOpC1
import Derived.Test.YtpgmnggicmbacaaDoorSySymOpC2
import Derived.Test.YtpgmnggicmbacaaDoorSySymBkN
import Derived.Test.YtpgmnggicmbacaaDoorSySymBkD
import Derived.Test.YtpgmnggicmbacaaDoorSySymC
namespace Go.Proofs.YtpgmnggicmbacaaDoor
open Go.Shelf Go.RowKit
set_option linter.unusedVariables false
set_option linter.unusedSimpArgs false

/-- What lexSymbol is to say. -/
def SyR (s : ByteArray) (r : Option (Option (Int × ByteArray))) : Prop :=
  (Comm s → NoTok r) ∧ (¬ Comm s → bars (by_ s) s.size 0 = true → BkR s r) ∧ (¬ Comm s → bars (by_ s) s.size 0 = false → OpR s r)
theorem LsPost.imp {b : Nat} {w w' : World} {R R' : Option (Option (Int × ByteArray)) → Prop} {e : Ending} (h : LsPost b w R e w') (hR : ∀ r, R r → R' r) : LsPost b w R' e w' := by
  obtain ⟨h1, h2⟩ := h
  refine ⟨h1, ?_⟩
  rcases h2 with ⟨t, v, e1, h⟩ | ⟨e1, e2, h⟩ | ⟨k, d, e1, e2, h⟩
  · exact .inl ⟨t, v, e1, hR _ h⟩
  · exact .inr (.inl ⟨e1, e2, hR _ h⟩)
  · exact .inr (.inr ⟨k, d, e1, e2, hR _ h⟩)
theorem by_size {s : ByteArray} {i : Nat} (h : by_ s i ≠ 0) : i < s.size := by
  rcases Nat.lt_or_ge i s.size with g | g
  · exact g
  · rw [by_data, Array.getElem?_eq_none (show s.data.size ≤ i from g)] at h
    exact absurd rfl h
theorem lexSym_any (b : Nat) (s f g : ByteArray) (src : Option Addr) (hs : s.size ≤ 1000000) (h0 : Sym0 s) (w : World) (h : LexK w b s (K0 f g src) 0 0) (hT : TabsAt b w) :
    Calls Tryd.prog 44 #[.pointer (some ⟨b, 0, none⟩)] w (LsPost b w (SyR s)) := by
  by_cases hc : Comm s
  · have hn : ∀ r, NoTok r → SyR s r := fun r hr => ⟨fun _ => hr, fun h => absurd hc h, fun h => absurd hc h⟩
    rcases hc with hc | hc
    · unfold two at hc
      simp only [Bool.and_eq_true, decide_eq_true_eq, beq_iff_eq] at hc
      obtain ⟨⟨h1, h2⟩, h3⟩ := hc
      exact (lexSym_line b s f g src hs h2 (by omega) h3 w h hT).mono fun e w' hp => hp.imp hn
    · unfold two at hc
      simp only [Bool.and_eq_true, decide_eq_true_eq, beq_iff_eq] at hc
      obtain ⟨⟨h1, h2⟩, h3⟩ := hc
      exact (lexSym_c b s f g src hs h2 (by omega) h3 w h hT).mono fun e w' hp => hp.imp hn
  · cases hb : bars (by_ s) s.size 0
    · obtain ⟨T, hSt, hTs⟩ := goI_ex (s := s) s.size 1 (Nat.le_refl _) h0.1 (by omega) (fun i h1 h2 => by omega)
      have hn : ∀ r, OpR s r → SyR s r := fun r hr => ⟨fun h => absurd h hc, fun _ h => (by rw [hb] at h; cases h), fun _ _ => hr⟩
      by_cases h47 : by_ s 0 = 47
      · rcases why_ex hSt.2.2 with hw | hw | hw
        · exact (lexSym_opA0 b s f g src hs h0 hc hb h47 T hSt hTs hw w h hT).mono fun e w' hp => hp.imp hn
        · exact (lexSym_opA1 b s f g src hs h0 hc hb h47 T hSt hTs hw w h hT).mono fun e w' hp => hp.imp hn
        · exact (lexSym_opA2 b s f g src hs h0 hc hb h47 T hSt hTs hw w h hT).mono fun e w' hp => hp.imp hn
      · by_cases h124 : by_ s 0 = 124
        · rcases why_ex hSt.2.2 with hw | hw | hw
          · exact (lexSym_opB0 b s f g src hs h0 hc hb h124 T hSt hTs hw w h hT).mono fun e w' hp => hp.imp hn
          · exact (lexSym_opB1 b s f g src hs h0 hc hb h124 T hSt hTs hw w h hT).mono fun e w' hp => hp.imp hn
          · exact (lexSym_opB2 b s f g src hs h0 hc hb h124 T hSt hTs hw w h hT).mono fun e w' hp => hp.imp hn
        · rcases why_ex hSt.2.2 with hw | hw | hw
          · exact (lexSym_opC0 b s f g src hs h0 hc hb ⟨h47, h124⟩ T hSt hTs hw w h hT).mono fun e w' hp => hp.imp hn
          · exact (lexSym_opC1 b s f g src hs h0 hc hb ⟨h47, h124⟩ T hSt hTs hw w h hT).mono fun e w' hp => hp.imp hn
          · exact (lexSym_opC2 b s f g src hs h0 hc hb ⟨h47, h124⟩ T hSt hTs hw w h hT).mono fun e w' hp => hp.imp hn
    · have hn : ∀ r, BkR s r → SyR s r := fun r hr => ⟨fun h => absurd h hc, fun _ _ => hr, fun _ h => (by rw [hb] at h; cases h)⟩
      by_cases h45 : by_ s 3 = 45
      · exact (lexSym_bkD b s f g src hs hb h45 (by_size (by rw [h45]; decide)) w h hT).mono fun e w' hp => hp.imp hn
      · exact (lexSym_bkN b s f g src hs hb h45 w h hT).mono fun e w' hp => hp.imp hn
end Go.Proofs.YtpgmnggicmbacaaDoor
