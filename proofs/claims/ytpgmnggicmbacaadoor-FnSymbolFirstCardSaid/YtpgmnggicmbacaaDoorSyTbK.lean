/-
  A lexer beside a buffer: acceptN; what checkWhitespace says of margins.
-/
import Derived.Test.YtpgmnggicmbacaaDoorSyBufK
import Derived.Test.YtpgmnggicmbacaaDoorSyGc
import Derived.Test.YtpgmnggicmbacaaDoorSyOpBase
namespace Go.Proofs.YtpgmnggicmbacaaDoor
open Go.Shelf Go.RowKit
set_option linter.unusedVariables false
set_option linter.unusedSimpArgs false

set_option maxRecDepth 100000 in
set_option maxHeartbeats 1600000 in
theorem acceptT (b : Nat) (s : ByteArray) (K : LK) (c pos n : Nat) (v : List UInt8) (hs : s.size ≤ 1000000) (hn : pos + n ≤ s.size) (ha : ∀ k, k < n → by_ s (pos + k) < 128) (w0 w : World) (h : TbI b s K w0 c w pos v) (hT : TabsAt b w0) (hbl : b < w0.heap.size) :
    Calls Tryd.prog 76 #[.pointer (some ⟨b, 0, none⟩), .int .i64 n] w (fun e w' => NoRes e ∧ TbI b s K w0 c w' (pos + n) v) := by
  have H := Lib.hid h
  have HT := Lib.hid hT
  have HA := Lib.hid ha
  clear h hT ha
  go_enter Tryd.func76, Tryd.ntmps76
  go_wp2_with fail
  go_loopw [4] (fun t wr => ∃ j : Nat, j ≤ n ∧ t = .int .i64 j ∧ Hid (TbI b s K w0 c wr (pos + j) v)) (fun t _ => n - (intOf t).toNat)
  case atStart => exact ⟨0, Nat.zero_le _, rfl, H⟩
  case round =>
    obtain ⟨j, hj, rfl, HI⟩ := hrel
    by_cases hlt : j < n
    · have hx := (peek_by (s := s) (pos := pos + j) (by omega) (HA.out j hlt)).2
      have HX := Lib.hid hx
      clear hx
      go_wp2_with fail
      refine (HI.out.nextC hs (by omega) HT.out hbl).mono ?_
      rintro e1 w1 ⟨rfl, hi1⟩
      rw [HX.out] at hi1
      have HI1 := Lib.hid hi1
      clear hi1
      go_wp2_with fail
      go_roundw
      case rel => exact ⟨j + 1, by omega, by go_num, HI1⟩
      case measure => simp [intOf]; omega
    · obtain rfl : j = n := by omega
      go_wp2_with fail
      go_end0
      exact ⟨rfl, HI.out⟩
theorem cutN {s : ByteArray} {a k : Nat} (hk : k < s.size - a) : by_ (s.extract a s.size) k = by_ s (a + k) := by
  have := by_cut (s := s) (i := a) (n := s.size - a) (k := k) (by omega) hk
  rwa [show a + (s.size - a) = s.size by omega] at this
/-- White space at a place. -/
theorem cw_self (s : ByteArray) (a z : Nat) (hs : s.size ≤ 1000000) (hz : Upto wsB (by_ s) s.size a z) (w : World) :
    Calls Tryd.prog 77 #[.string (s.extract a s.size), .string (s.extract a s.size)] w fun e w' => e = .returned (.int .i64 ((z - a : Nat) : Int)) ∧ Below w.heap.size w w' := by
  have hr : (s.extract a s.size).size = s.size - a := by rw [ByteArray.size_extract]; omega
  refine (checkWs_any _ _ (by rw [hr]; omega) (by rw [hr]; omega) w).mono ?_
  rintro e w' ⟨⟨n, rfl, h1, -, h3, h4⟩, hb⟩
  refine ⟨?_, hb⟩
  obtain ⟨z1, z2, z3, z4⟩ := hz
  rw [hr] at h1 h4
  have hU : Upto wsB (by_ s) s.size a (a + n) := by
    refine ⟨by omega, by omega, fun i hi hl => ?_, fun hl => ?_⟩
    · have := (h3 (i - a) (by omega)).1
      rwa [cutN (by omega), show a + (i - a) = i by omega] at this
    · rcases h4 with (h4 | h4) | ⟨-, m, hm, -, h5⟩
      · omega
      · rwa [cutN (by omega)] at h4
      · rcases h5 with h5 | h5
        · omega
        · exact absurd rfl h5
  have := upto_uniq hU ⟨z1, z2, z3, z4⟩
  rw [show n = z - a by omega]
theorem cw_yes (s : ByteArray) (p0 m a : Nat) (hs : s.size ≤ 1000000) (h : Upto wsB (by_ s) s.size p0 (p0 + m)) (ha : a ≤ s.size) (hm : StM (by_ s) s.size p0 m a) (w : World) :
    Calls Tryd.prog 77 #[.string (s.extract p0 (p0 + m)), .string (s.extract a s.size)] w fun e w' => e = .returned (.int .i64 (m : Int)) ∧ Below w.heap.size w w' := by
  have h1 : (s.extract p0 (p0 + m)).size = m := cut_size h.2.1
  have h2 := h.2.1
  refine (checkWs_any _ _ (by rw [h1]; omega) (by rw [ByteArray.size_extract]; omega) w).mono ?_
  rintro e w' ⟨⟨n, rfl, k1, k2, k3, k4⟩, hb⟩
  rcases cw_margin h ha k1 k2 k3 k4 with ⟨e1, -⟩ | ⟨-, e2⟩
  · rw [e1]
    exact ⟨rfl, hb⟩
  · exact absurd hm e2
theorem cw_no (s : ByteArray) (p0 m a : Nat) (hs : s.size ≤ 1000000) (h : Upto wsB (by_ s) s.size p0 (p0 + m)) (ha : a ≤ s.size) (hm : ¬ StM (by_ s) s.size p0 m a) (w : World) :
    Calls Tryd.prog 77 #[.string (s.extract p0 (p0 + m)), .string (s.extract a s.size)] w fun e w' => e = .returned (.int .i64 ((0 : Nat) : Int)) ∧ Below w.heap.size w w' := by
  have h1 : (s.extract p0 (p0 + m)).size = m := cut_size h.2.1
  have h2 := h.2.1
  refine (checkWs_any _ _ (by rw [h1]; omega) (by rw [ByteArray.size_extract]; omega) w).mono ?_
  rintro e w' ⟨⟨n, rfl, k1, k2, k3, k4⟩, hb⟩
  rcases cw_margin h ha k1 k2 k3 k4 with ⟨-, e2⟩ | ⟨e1, -⟩
  · exact absurd e2 hm
  · rw [e1]
    exact ⟨rfl, hb⟩
/-- An error at a place. -/
theorem TbI.errC {b : Nat} {s f g : ByteArray} {src : Option Addr} {w0 wr : World} {c pos : Nat} {v : List UInt8} (h : TbI b s (K0 f g src) w0 c wr pos v) (m : ByteArray) (x y : Int) :
    Calls Tryd.prog 71 #[.pointer (some ⟨b, 0, none⟩), .string m, .agg #[.int .i64 x, .int .i64 y]] wr (fun e w' => (∃ t u, e = .returned (.iface t u)) ∧ w0.grownBy w' (some b)) := by
  obtain ⟨⟨⟨ls, h1⟩, h2⟩, -⟩ := h
  refine (errPoint_any b s m (K0 f g src) src rfl pos ls x y wr h1).mono ?_
  rintro e w' ⟨he, hb⟩
  exact ⟨he, grown_trans h2 (grown_below hb _)⟩
/-- What lexSymbol is to say of a text block. -/
def BkR (s : ByteArray) (r : Option (Option (Int × ByteArray))) : Prop :=
  match r with
  | none => BlkSay s none
  | some none => False
  | some (some (k, d)) => k = 13 ∧ BlkSay s (some d.data.toList)
theorem upto_ex2 (p : Nat → Bool) (s : ByteArray) : ∀ (f a : Nat), a ≤ s.size → s.size - a ≤ f → ∃ z, Upto p (by_ s) s.size a z
  | 0, a, ha, hf => ⟨a, (UpI.start ha).done (fun h => by omega)⟩
  | f + 1, a, ha, hf => by
    by_cases h : a < s.size ∧ p (by_ s a) = true
    · obtain ⟨z, h1, h2, h3, h4⟩ := upto_ex2 p s f (a + 1) h.1 (by omega)
      refine ⟨z, by omega, h2, fun i hi hl => ?_, h4⟩
      rcases Nat.lt_or_ge a i with g | g
      · exact h3 i g hl
      · obtain rfl : i = a := by omega
        exact h.2
    · refine ⟨a, (UpI.start ha).done (fun hl => ?_)⟩
      cases hp : p (by_ s a)
      · rfl
      · exact absurd ⟨hl, hp⟩ h
end Go.Proofs.YtpgmnggicmbacaaDoor
