/-
  The language's lexer reads the first token.
-/
import Derived.Test.YtpgmnggicmbacaaDoorSyTok
import Derived.Test.YtpgmnggicmbacaaDoorSyOpS
import Derived.Test.YtpgmnggicmbacaaDoorSyBlkS
namespace Go.Proofs.YtpgmnggicmbacaaDoor
open Go.Shelf Go.RowKit
set_option linter.unusedVariables false
set_option linter.unusedSimpArgs false

def signT : ByteArray := ⟨#[123, 125, 91, 93, 44, 46, 40, 41, 59]⟩
theorem hasQ_sign : ∀ c : Fin 256, opB c.val = true → hasQ signT c.val = false := by decide +kernel
set_option maxRecDepth 100000 in
set_option maxHeartbeats 3200000 in
theorem token_op (b : Nat) (s : ByteArray) (uns : Bool) (hs : s.size ≤ 1000000) (h0 : Sym0 s) (hb : bars (by_ s) s.size 0 = false) (w : World) (h : Lx w b s 0 (.slice none 0 0) false uns) :
    Calls Tryd.prog 29 #[.pointer (some ⟨b, 0, none⟩)] w (OrPost b s false w) := by
  have HS0 := Lib.hid h0
  obtain ⟨hlt, hop⟩ := h0
  have c0 := h.c0
  have c1 := h.c1
  have HB := Lib.hid hb
  have hI : (0 : Int) < (s.size : Int) := by omega
  have hbl := h.lt
  have hd := by_eq hlt
  have HOP := Lib.hid (show opB (s[0]'hlt).toNat = true by rw [hd]; exact hop)
  have H0 := Lib.hid (show GpI b s (.slice none 0 0) uns w w 0 false from ⟨h, grown_below (Below.refl _ _) _⟩)
  have KI := Lib.hid (fun (c : Nat) (v : ByteArray) (hv : v.size ≤ 1000) (w' : World) => isIn_any c v (by omega) w')
  clear hb h hop hd
  go_enter Tryd.func29, Tryd.ntmps29
  go_wp2_with fail
  go_quiet ((fail))
  have H1 := Lib.hid (H0.out.below (below_drewB (Below.refl _ _) nq))
  clear H0 c0 c1
  generalize w.drewN nq = w1 at H1 ⊢
  go_wp2_with fail
  refine (opening_any b s _ false uns hs HS0.out _ H1.out.1).mono ?_
  rintro e2 w2 ⟨rfl, hb2⟩
  rw [HB.out]
  have H2 := Lib.hid (H1.out.below hb2)
  clear hb2 H1
  go_wp2_with fail
  refine (letterOp_no _ HOP.out _).mono ?_
  rintro e3 w3 ⟨rfl, rfl⟩
  go_wp2_with fail
  refine (digitOp_no _ HOP.out _).mono ?_
  rintro e4 w4 ⟨rfl, rfl⟩
  go_wp2_with fail
  refine (KI.out _ _ (by show 9 ≤ _; omega) _).mono ?_
  rintro e5 w5 ⟨rfl, rfl⟩
  rw [show hasQ ⟨#[123, 125, 91, 93, 44, 46, 40, 41, 59]⟩ (s[0]'hlt).toNat = false from hasQ_sign ⟨_, UInt8.toNat_lt _⟩ HOP.out]
  go_wp2_with fail
  refine (KI.out _ _ (by show 15 ≤ _; omega) _).mono ?_
  rintro e6 w6 ⟨rfl, rfl⟩
  rw [show hasQ ⟨#[33, 36, 58, 126, 43, 45, 38, 124, 94, 61, 60, 62, 42, 47, 37]⟩ (s[0]'hlt).toNat = true from (hasQ_ops ⟨_, UInt8.toNat_lt _⟩).trans HOP.out]
  go_wp2_with fail
  refine (operator_any b s false uns hs hlt _ H2.out.1).mono ?_
  rintro e7 w7 ⟨rfl, all, t, g, cap, u, p1, p2, p3, p4, p5, p6⟩
  have HP := Lib.hid (show ∃ (all t g cap : Nat) (u : Bool), Stop (goS (by_ s) s.size) all ∧ Wound (by_ s) all t ∧ (u = false → (∀ i, 1 ≤ i → i < all → odd1 (by_ s) all i = false) ∧ (t = all ∨ t = 1)) ∧
    Lx w7 b s t (.slice (some ⟨g, 0, none⟩) 1 cap) false u ∧ TkAt w7 g 6 0 (s.extract 0 t) ⟨#[]⟩ 0 t ∧ w.grownBy w7 (some b) from ⟨all, t, g, cap, u, p1, p2, p3, p4, p5, grown_trans H2.out.2 p6⟩)
  clear p1 p2 p3 p4 p5 p6
  go_wp2_with fail
  go_end0
  exact ⟨rfl, HP.out⟩
set_option maxRecDepth 100000 in
set_option maxHeartbeats 3200000 in
theorem token_blk (b : Nat) (s : ByteArray) (uns : Bool) (hs : s.size ≤ 1000000) (h0 : Sym0 s) (hb : bars (by_ s) s.size 0 = true) (w : World) (h : Lx w b s 0 (.slice none 0 0) false uns) :
    Calls Tryd.prog 29 #[.pointer (some ⟨b, 0, none⟩)] w (BlPost b s w) := by
  have HS0 := Lib.hid h0
  obtain ⟨hlt, hop⟩ := h0
  have h3 : 3 ≤ s.size := by
    unfold bars at hb
    simp only [Bool.and_eq_true, decide_eq_true_eq] at hb
    omega
  have c0 := h.c0
  have c1 := h.c1
  have HB := Lib.hid hb
  have hI : (0 : Int) < (s.size : Int) := by omega
  have H0 := Lib.hid (show GpI b s (.slice none 0 0) uns w w 0 false from ⟨h, grown_below (Below.refl _ _) _⟩)
  clear hb h hop
  go_enter Tryd.func29, Tryd.ntmps29
  go_wp2_with fail
  go_quiet ((fail))
  have H1 := Lib.hid (H0.out.below (below_drewB (Below.refl _ _) nq))
  clear H0 c0 c1
  generalize w.drewN nq = w1 at H1 ⊢
  go_wp2_with fail
  refine (opening_any b s _ false uns hs HS0.out _ H1.out.1).mono ?_
  rintro e2 w2 ⟨rfl, hb2⟩
  rw [HB.out]
  have H2 := Lib.hid (H1.out.below hb2)
  clear hb2 H1
  go_wp2_with fail
  refine (block_any b s uns hs h3 _ H2.out.1).mono ?_
  rintro e7 w7 ⟨rfl, bad, u, p, out, ⟨g1, g2⟩, hcase⟩
  have HP := Lib.hid (show ∃ (bad u : Bool) (p : Nat) (out : Value), GpI b s out u w w7 p bad ∧
    ((bad = true ∧ (u = false → by_ s 3 ≠ 45 ∧ ∀ v, ¬ BlockOk (by_ s) s.size v)) ∨
     (bad = false ∧ ∃ g cap l, out = .slice (some ⟨g, 0, none⟩) 1 cap ∧ TkAt w7 g 4 5 ⟨#[]⟩ ⟨l.toArray⟩ 0 p ∧ (u = false → by_ s 3 ≠ 45 ∧ BlockOk (by_ s) s.size l))) from ⟨bad, u, p, out, ⟨g1, grown_trans H2.out.2 g2⟩, hcase⟩)
  clear g1 g2 hcase
  go_wp2_with fail
  go_end0
  exact ⟨rfl, HP.out⟩
end Go.Proofs.YtpgmnggicmbacaaDoor
