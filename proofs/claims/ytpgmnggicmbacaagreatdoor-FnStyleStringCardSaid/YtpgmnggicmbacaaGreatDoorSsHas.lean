/-
  Quotes in a text: by bytes and by runes; laws.hasByte.
-/
import Derived.Test.YtpgmnggicmbacaaGreatDoorEsAgree
import Derived.Test.YtpgmnggicmbacaaGreatDoorProg
import Derived.WalkKit
import Derived.BigCall
namespace Go.Proofs.YtpgmnggicmbacaaGreatDoor
open Go.RowKit

/-- A byte stands ahead of a place. -/
def hasUp (v : ByteArray) (c p : Nat) : Bool := (List.range p).any fun i => by_ v i == c
theorem hasUp_zero (v : ByteArray) (c : Nat) : hasUp v c 0 = false := rfl
theorem hasUp_succ (v : ByteArray) (c p : Nat) : hasUp v c (p + 1) = (hasUp v c p || (by_ v p == c)) := by
  unfold hasUp
  rw [List.range_succ, List.any_append]
  simp
theorem hasUp_more (v : ByteArray) (c p : Nat) : ∀ n, (∀ k, k < n → by_ v (p + k) ≠ c) → hasUp v c (p + n) = hasUp v c p
  | 0, _ => rfl
  | n + 1, h => by
    rw [show p + (n + 1) = p + n + 1 by omega, hasUp_succ, hasUp_more v c p n (fun k hk => h k (by omega))]
    have := h n (by omega)
    rw [beq_eq_false_iff_ne.2 this, Bool.or_false]
theorem encB_high {r : Nat} (hs : Scal r) (h : 128 ≤ r) : ∀ (k : Nat) (b : UInt8), (encB r)[k]? = some b → 128 ≤ b.toNat := by
  unfold Scal at hs
  have key : ∀ b ∈ encB r, 128 ≤ b.toNat := by
    intro b hb
    unfold encB at hb
    rw [if_neg (by omega)] at hb
    repeat' split at hb
    all_goals
      simp only [List.mem_cons, List.not_mem_nil, or_false] at hb
      rcases hb with rfl | rfl | rfl | rfl
      all_goals (rw [u8_nat (by omega)]; omega)
  intro k b hb
  exact key b (List.mem_of_getElem? hb)
theorem hasUp_rune {v : ByteArray} {p r n c : Nat} (hp : PtOk v p r n) (hc : c < 128) : hasUp v c (p + n) = (hasUp v c p || decide (r = c)) := by
  obtain ⟨hs, hl, hat⟩ := pt_at hp
  rcases Nat.lt_or_ge r 128 with h1 | h1
  · rw [encB_low h1] at hat hl
    have hb := hat.head.2
    rw [u8_nat (by omega)] at hb
    obtain rfl : n = 1 := by simpa using hl.symm
    rw [hasUp_succ, hb]
    congr 1
  · rw [hasUp_more v c p n (fun k hk => by
      have h2 := hat.2 k (by omega)
      have h3 : k < (encB r).length := by omega
      have h4 := encB_high hs h1 k _ (List.getElem?_eq_getElem h3)
      rw [h2, List.getElem?_eq_getElem h3]
      simp only [Option.getD_some]
      omega), decide_eq_false (by omega), Bool.or_false]
def hasQ (v : ByteArray) (c : Nat) : Bool := hasUp v c v.size
set_option maxRecDepth 100000 in
theorem hasByte_any (v : ByteArray) (c : Nat) (hs : v.size ≤ 1000000000) (w : World) :
    Calls Tryz.prog 7 #[.string v, .int .u8 c] w fun e w' => e = .returned (.bool (hasQ v c)) ∧ w = w' := by
  go_enter Tryz.func7, Tryz.ntmps7
  go_wp2_with fail
  go_loopw [5] (fun t wr => ∃ i : Nat, t = .int .i64 i ∧ i ≤ v.size ∧ wr = w ∧ Hid (hasUp v c i = false)) (fun t _ => v.size - (intOf t).toNat)
  case atStart => exact ⟨0, rfl, by omega, by trivial, Lib.hid rfl⟩
  case round =>
    obtain ⟨i, rfl, hi, rfl, H⟩ := hrel
    by_cases hlt : i < v.size
    · have hd := by_eq hlt
      by_cases he : by_ v i = c
      · have q : (((v[i]'hlt).toNat : Int) == (c : Int)) = true := by rw [hd, he]; simp
        have HE := Lib.hid (show hasQ v c = true by
          unfold hasQ hasUp
          rw [List.any_eq_true]
          exact ⟨i, by simpa using hlt, by simpa using he⟩)
        clear hd he
        go_wp2_with fail
        go_ret
        exact ⟨by rw [HE.out]; rfl, rfl⟩
      · have q : (((v[i]'hlt).toNat : Int) == (c : Int)) = false := by rw [hd]; simp; omega
        have HN := Lib.hid (show hasUp v c (i + 1) = false by rw [hasUp_succ, H.out, beq_eq_false_iff_ne.2 he]; rfl)
        clear hd he
        go_wp2_with fail
        go_roundw
        case rel => exact ⟨i + 1, by go_num, by omega, by trivial, HN⟩
        case measure => simp [intOf]; omega
    · obtain rfl : i = v.size := by omega
      have HE := Lib.hid (show hasQ v c = false from H.out)
      go_wp2_with fail
      go_ret
      exact ⟨by rw [HE.out]; rfl, rfl⟩
end Go.Proofs.YtpgmnggicmbacaaGreatDoor
