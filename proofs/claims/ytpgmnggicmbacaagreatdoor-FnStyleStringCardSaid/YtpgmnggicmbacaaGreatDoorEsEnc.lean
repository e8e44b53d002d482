/-
  spec.encoded: the bytes of a code point. (After the text OfUnits of another seat.)
-/
import Derived.Test.YtpgmnggicmbacaaGreatDoorEncR
import Derived.Test.YtpgmnggicmbacaaGreatDoorEsHex
import Derived.Laws.IdiomStrings
import Derived.Laws.BitsAllLaws
namespace Go.Proofs.YtpgmnggicmbacaaGreatDoor
open Go.RowKit

theorem ofInt_small (a : Nat) (ha : a < 9223372036854775808) : (BitVec.ofInt 64 (a : Int)).toNat = a := by
  rw [BitVec.ofInt_natCast, BitVec.toNat_ofNat]; exact Nat.mod_eq_of_lt (by omega)
theorem bits_63 (a : Nat) (ha : a < 9223372036854775808) : bits .and .i64 (a : Int) 63 = ((a % 64 : Nat) : Int) := by
  have h2 : a &&& 63 = a % 64 := by
    have := Nat.and_two_pow_sub_one_eq_mod a 6
    have e2 : (2 : Nat) ^ 6 - 1 = 63 := by decide
    have e3 : (2 : Nat) ^ 6 = 64 := by decide
    rw [e2, e3] at this
    exact this
  show IntKind.i64.wrap ((BitVec.ofInt 64 (a : Int) &&& BitVec.ofInt 64 ((63 : Nat) : Int)).toNat : Int) = _
  rw [BitVec.toNat_and, ofInt_small a ha, ofInt_small 63 (by omega), h2, IntKind.wrap_i64]
  omega

theorem conv_bytes (w : World) (l : List UInt8) (cells : Array Value) (n : Nat) (hn : l.length = n) (hc : cells = (l.map fun b => Value.int .u8 (b.toNat : Int)).toArray) (E : ByteArray) (hE : E.data = l.toArray) :
    (convert 31 9 (.slice (some ⟨w.heap.size, 0, none⟩) n n)).run Tryz.prog (w.alloc (.cells cells 5)) = .ok (.string E) (w.alloc (.cells cells 5)) := by
  subst hn
  obtain ⟨d⟩ := E
  dsimp only at hE
  subst hE
  refine run_convert_bytes_back _ _ _ _ _ _ l Tryz.underlying31 Tryz.underlying5 Tryz.underlying9 fun j hj => ?_
  have h1 : (w.alloc (.cells cells 5)).cell? ⟨w.heap.size, j, none⟩ = cells[j]? := World.cell?_alloc_mark w cells _ _ j
  have h2 : (⟨w.heap.size, 0, none⟩ : Addr).add j = ⟨w.heap.size, j, none⟩ := by simp [Addr.add]; omega
  rw [h2, h1, hc]
  simp [hj]

theorem u8_int {n : Nat} (h : n < 256) : ((UInt8.ofNat n).toNat : Int) = (n : Int) := by rw [u8_nat h]

set_option maxRecDepth 100000 in
theorem encoded_one (r : Nat) (E : ByteArray) (hE : E.data = #[UInt8.ofNat r]) (h1 : r < 128) (w : World) :
    Calls Tryz.prog 10 #[.int .i64 r] w fun e w' => e = .returned (.string E) ∧ Below w.heap.size w w' := by
  have k1 := conv_bytes w [UInt8.ofNat r] #[.int .u8 r] 1 rfl (by simp only [List.map_cons, List.map_nil]; rw [u8_int (by omega)]) E hE
  clear hE
  go_enter Tryz.func10, Tryz.ntmps10
  go_wp2_with fail
  go_ret
  exact ⟨rfl, (Below.refl _ _).alloc (Nat.le_refl _) _⟩
set_option maxRecDepth 100000 in
theorem encoded_two (r : Nat) (E : ByteArray) (hE : E.data = #[UInt8.ofNat (192 + r / 64), UInt8.ofNat (128 + r % 64)]) (h1 : ¬ r < 128) (h2 : r < 2048) (w : World) :
    Calls Tryz.prog 10 #[.int .i64 r] w fun e w' => e = .returned (.string E) ∧ Below w.heap.size w w' := by
  have b1 := bits_63 r (by omega)
  have hm : r % 64 < 64 := Nat.mod_lt _ (by omega)
  have k1 := conv_bytes w [UInt8.ofNat (192 + r / 64), UInt8.ofNat (128 + r % 64)] #[.int .u8 (192 + (r : Int) / 64), .int .u8 (128 + ((r % 64 : Nat) : Int))] 2 rfl (by simp only [List.map_cons, List.map_nil]; rw [u8_int (by omega), u8_int (by omega)]; simp) E hE
  clear hE
  generalize r % 64 = m at *
  go_enter Tryz.func10, Tryz.ntmps10
  go_wp2_with fail
  go_ret
  exact ⟨rfl, (Below.refl _ _).alloc (Nat.le_refl _) _⟩
set_option maxRecDepth 100000 in
theorem encoded_three (r q p m m2 : Nat) (E : ByteArray) (hq : r / 4096 = q) (hp : r / 64 = p) (hm' : r % 64 = m) (hm2' : p % 64 = m2) (hE : E.data = #[UInt8.ofNat (224 + q), UInt8.ofNat (128 + m2), UInt8.ofNat (128 + m)]) (_h1 : ¬ r < 128) (h2 : ¬ r < 2048) (h3 : r < 65536) (w : World) :
    Calls Tryz.prog 10 #[.int .i64 r] w fun e w' => e = .returned (.string E) ∧ Below w.heap.size w w' := by
  have b1 := bits_63 r (by omega)
  have b2 := bits_63 p (by omega)
  rw [hm'] at b1
  rw [hm2'] at b2
  have s1 : (r : Int) / 4096 = (q : Int) := by omega
  have s2 : (r : Int) / 64 = (p : Int) := by omega
  have hm : m < 64 := by omega
  have hm2 : m2 < 64 := by omega
  have hqq : q < 16 := by omega
  have k1 := conv_bytes w [UInt8.ofNat (224 + q), UInt8.ofNat (128 + m2), UInt8.ofNat (128 + m)] #[.int .u8 (224 + (q : Int)), .int .u8 (128 + (m2 : Int)), .int .u8 (128 + (m : Int))] 3 rfl (by simp only [List.map_cons, List.map_nil]; rw [u8_int (by omega), u8_int (by omega), u8_int (by omega)]; simp) E hE
  have c1 : decide ((r : Int) < 128) = false := by simp; omega
  have c2 : decide ((r : Int) < 2048) = false := by simp; omega
  have c3 : decide ((r : Int) < 65536) = true := by simp; omega
  clear hE hq hp hm' hm2' _h1 h2 h3
  go_enter Tryz.func10, Tryz.ntmps10
  go_wp2_with fail
  go_ret
  exact ⟨rfl, (Below.refl _ _).alloc (Nat.le_refl _) _⟩
set_option maxRecDepth 100000 in
theorem encoded_four (r o q p m m2 m3 : Nat) (E : ByteArray) (ho : r / 262144 = o) (hq : r / 4096 = q) (hp : r / 64 = p) (hm' : r % 64 = m) (hm2' : p % 64 = m2) (hm3' : q % 64 = m3) (hE : E.data = #[UInt8.ofNat (240 + o), UInt8.ofNat (128 + m3), UInt8.ofNat (128 + m2), UInt8.ofNat (128 + m)]) (h3 : ¬ r < 65536) (h4 : r ≤ 1114111) (w : World) :
    Calls Tryz.prog 10 #[.int .i64 r] w fun e w' => e = .returned (.string E) ∧ Below w.heap.size w w' := by
  have b1 := bits_63 r (by omega)
  have b2 := bits_63 p (by omega)
  have b3 := bits_63 q (by omega)
  rw [hm'] at b1
  rw [hm2'] at b2
  rw [hm3'] at b3
  have s1 : (r : Int) / 4096 = (q : Int) := by omega
  have s2 : (r : Int) / 64 = (p : Int) := by omega
  have s3 : (r : Int) / 262144 = (o : Int) := by omega
  have hm : m < 64 := by omega
  have hm2 : m2 < 64 := by omega
  have hm3 : m3 < 64 := by omega
  have hoo : o < 8 := by omega
  have k1 := conv_bytes w [UInt8.ofNat (240 + o), UInt8.ofNat (128 + m3), UInt8.ofNat (128 + m2), UInt8.ofNat (128 + m)] #[.int .u8 (240 + (o : Int)), .int .u8 (128 + (m3 : Int)), .int .u8 (128 + (m2 : Int)), .int .u8 (128 + (m : Int))] 4 rfl (by simp only [List.map_cons, List.map_nil]; rw [u8_int (by omega), u8_int (by omega), u8_int (by omega), u8_int (by omega)]; simp) E hE
  have c1 : decide ((r : Int) < 128) = false := by simp; omega
  have c2 : decide ((r : Int) < 2048) = false := by simp; omega
  have c3 : decide ((r : Int) < 65536) = false := by simp; omega
  clear hE hq hp ho hm' hm2' hm3' h3 h4
  go_enter Tryz.func10, Tryz.ntmps10
  go_wp2_with fail
  go_ret
  exact ⟨rfl, (Below.refl _ _).alloc (Nat.le_refl _) _⟩

def EnPost (n : Nat) (w : World) (e : Ending) (w' : World) : Prop := e = .returned (.string ⟨(encB n).toArray⟩) ∧ Below w.heap.size w w'
theorem encoded_any (n : Nat) (hn : n ≤ 1114111) (w : World) : Calls Tryz.prog 10 #[.int .i64 n] w (EnPost n w) := by
  by_cases c1 : n < 128
  · exact encoded_one n _ (by unfold encB; rw [if_pos c1]) c1 w
  by_cases c2 : n < 2048
  · exact encoded_two n _ (by unfold encB; rw [if_neg c1, if_pos c2]) c1 c2 w
  by_cases c3 : n < 65536
  · exact encoded_three n _ _ _ _ _ rfl rfl rfl rfl (by unfold encB; rw [if_neg c1, if_neg c2, if_pos c3]) c1 c2 c3 w
  · exact encoded_four n _ _ _ _ _ _ _ rfl rfl rfl rfl rfl rfl (by unfold encB; rw [if_neg c1, if_neg c2, if_neg c3]) c3 hn w
end Go.Proofs.YtpgmnggicmbacaaGreatDoor
