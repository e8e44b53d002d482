/-
  strconv.FormatInt at base 16, at the numbers for which the package asks it.
-/
import Derived.Test.YtpgmnggicmbacaaGreatDoorEsBuf
import Derived.IntWalk
import Derived.LoopN
import Derived.Laws.IdiomStrings
namespace Go.Proofs.YtpgmnggicmbacaaGreatDoor
open Go.Shelf Go.RowKit

set_option maxRecDepth 100000 in
theorem pow2_any (w : World) : Calls Tryz.prog 48 #[.int .i64 16] w fun e w' => e = .returned (.bool true) ∧ w = w' := by
  go_enter Tryz.func48, Tryz.ntmps48
  go_wp2
  go_ret
  exact ⟨rfl, rfl⟩
set_option maxRecDepth 100000 in
theorem tz64_any (w : World) (h : w.cell? ⟨6, 15, none⟩ = some (.int .u8 4)) : Calls Tryz.prog 51 #[.int .u64 16] w fun e w' => e = .returned (.int .i64 4) ∧ w = w' := by
  have f1 : IntKind.u64.wrap (bits BinOp.and IntKind.u64 16 (IntKind.u64.wrap (-16)) * 285870213051353865) / 288230376151711744 = 15 := by kernel_rfl
  go_enter Tryz.func51, Tryz.ntmps51
  go_wp2
  go_ret
  exact ⟨rfl, rfl⟩
set_option maxRecDepth 100000 in
theorem tz_any (w : World) (h : w.cell? ⟨6, 15, none⟩ = some (.int .u8 4)) : Calls Tryz.prog 49 #[.int .u64 16] w fun e w' => e = .returned (.int .i64 4) ∧ w = w' := by
  go_enter Tryz.func49, Tryz.ntmps49
  go_wp2_with fail
  refine (tz64_any w h).mono ?_
  rintro e w' ⟨rfl, rfl⟩
  go_wp2_with fail
  go_ret
  exact ⟨rfl, rfl⟩
/-- What formatBits leaves. -/
def FbPost (h l : Nat) (w : World) (e : Ending) (w' : World) : Prop := (∃ v, e = .returned (.tuple #[v, .string ⟨#[49, 48, 48, hexD h, hexD l]⟩])) ∧ Below w.heap.size w w'
def tbl : ByteArray := ⟨#[48, 49, 50, 51, 52, 53, 54, 55, 56, 57, 97, 98, 99, 100, 101, 102, 103, 104, 105, 106, 107, 108, 109, 110, 111, 112, 113, 114, 115, 116, 117, 118, 119, 120, 121, 122]⟩
theorem tbl_fin : ∀ c : Fin 16, tbl[c.val]'(by show c.val < 36; omega) = hexD c.val := by decide
theorem tbl_hex (c : Nat) (h : c < 16) (hb : c < tbl.size) : tbl[c]'hb = hexD c := tbl_fin ⟨c, h⟩
theorem conv_tail (w : World) (A0 : Array Value) (hA : A0.size = 65) (b0 b1 b2 b3 b4 : UInt8) :
    (convert 31 9 (.slice (some ⟨w.heap.size, 60, none⟩) 5 5)).run Tryz.prog (w.alloc (.cells (((((A0.setIfInBounds 64 (.int .u8 (b4.toNat : Int))).setIfInBounds 63 (.int .u8 (b3.toNat : Int))).setIfInBounds 62 (.int .u8 (b2.toNat : Int))).setIfInBounds 61 (.int .u8 (b1.toNat : Int))).setIfInBounds 60 (.int .u8 (b0.toNat : Int))) 120)) =
      .ok (.string ⟨#[b0, b1, b2, b3, b4]⟩) (w.alloc (.cells (((((A0.setIfInBounds 64 (.int .u8 (b4.toNat : Int))).setIfInBounds 63 (.int .u8 (b3.toNat : Int))).setIfInBounds 62 (.int .u8 (b2.toNat : Int))).setIfInBounds 61 (.int .u8 (b1.toNat : Int))).setIfInBounds 60 (.int .u8 (b0.toNat : Int))) 120)) := by
  generalize hC : ((((A0.setIfInBounds 64 (.int .u8 (b4.toNat : Int))).setIfInBounds 63 (.int .u8 (b3.toNat : Int))).setIfInBounds 62 (.int .u8 (b2.toNat : Int))).setIfInBounds 61 (.int .u8 (b1.toNat : Int))).setIfInBounds 60 (.int .u8 (b0.toNat : Int)) = C
  have hcell : ∀ j, (w.alloc (.cells C 120)).cell? ⟨w.heap.size, j, none⟩ = C[j]? := fun j => World.cell?_alloc_mark w C _ _ j
  refine run_convert_bytes_back (l := [b0, b1, b2, b3, b4]) _ _ _ _ _ _ Tryz.underlying31 Tryz.underlying5 Tryz.underlying9 fun j hj => ?_
  have h2 : (⟨w.heap.size, 60, none⟩ : Addr).add j = ⟨w.heap.size, 60 + j, none⟩ := by simp [Addr.add]
  rw [h2, hcell, ← hC]
  have hj5 : j < 5 := hj
  obtain rfl | rfl | rfl | rfl | rfl : j = 0 ∨ j = 1 ∨ j = 2 ∨ j = 3 ∨ j = 4 := by omega
  all_goals simp [hA]
theorem small64 (a : Nat) (ha : a < 18446744073709551616) : (BitVec.ofInt 64 (a : Int)).toNat = a := by
  rw [BitVec.ofInt_natCast, BitVec.toNat_ofNat]; exact Nat.mod_eq_of_lt (by omega)
theorem and_15 (a : Nat) (ha : a < 1000000) : bits .and .u64 (a : Int) 15 = ((a % 16 : Nat) : Int) := by
  have h2 : a &&& 15 = a % 16 := Nat.and_two_pow_sub_one_eq_mod a 4
  show IntKind.u64.wrap ((BitVec.ofInt 64 (a : Int) &&& BitVec.ofInt 64 ((15 : Nat) : Int)).toNat : Int) = _
  rw [BitVec.toNat_and, small64 a (by omega), small64 15 (by omega), h2]
  have h3 : a % 16 < 16 := Nat.mod_lt _ (by omega)
  generalize a % 16 = m at h3
  have : IntKind.u64.wrap (m : Int) = (m : Int) := by
    rw [IntKind.wrap_u64]
    omega
  exact this
set_option maxRecDepth 100000 in
set_option maxHeartbeats 3200000 in
theorem fmtBits_any (c c1 : Int) (h l : Nat) (hh : h < 16) (hl : l < 16) (h0 : 16 ≤ c) (h1 : 16 ≤ c1) (e0 : c / 16 = c1) (e1 : c1 / 16 = 256) (b0 : bits .and .u64 c 15 = (l : Int)) (b1 : bits .and .u64 c1 15 = (h : Int)) (w : World) (hc : w.cell? ⟨6, 15, none⟩ = some (.int .u8 4)) :
    Calls Tryz.prog 44 #[.slice none 0 0, .int .u64 c, .int .i64 16, .bool false, .bool false] w (FbPost h l w) := by
  have hb6 : 6 < w.heap.size := World.block_lt_of_cell? w _ hc
  have b2 : bits .and .u64 256 15 = 0 := by kernel_rfl
  have b3 : bits .and .u64 16 15 = 0 := by kernel_rfl
  go_enter Tryz.func44, Tryz.ntmps44
  go_wp2_with fail
  refine (pow2_any _).mono ?_
  rintro e1 w1 ⟨rfl, rfl⟩
  go_wp2_with fail
  refine (tz_any _ ?_).mono ?_
  · rw [World.cell?_alloc_lt _ _ _ hb6]
    exact hc
  rintro e2 w2 ⟨rfl, rfl⟩
  clear hc
  go_wp2_with fail
  refine wp_loop_rounds 5 ?_
  rw [rounds_succ]
  go_wp2_with fail
  rw [rounds_succ]
  go_wp2_with fail
  rw [rounds_succ]
  go_wp2_with fail
  rw [rounds_succ]
  go_wp2_with fail
  rw [rounds_succ]
  go_wp2_with fail
  rw [conv_tail w Tryz.zeroCells120 (by kernel_rfl)]
  go_wp2_with fail
  go_ret2
  refine ⟨⟨.slice none 0 0, ?_⟩, (Below.refl w.heap.size w).alloc (Nat.le_refl _) _⟩
  have e3 := tbl_hex h hh (by show h < 36; omega)
  have e4 := tbl_hex l hl (by show l < 36; omega)
  have e5 := tbl_hex 0 (by omega) (by decide)
  have e6 := tbl_hex 1 (by omega) (by decide)
  unfold tbl at e3 e4 e5 e6
  rw [← e3, ← e4]
  rfl
def FmPost (r : Nat) (w : World) (e : Ending) (w' : World) : Prop := e = .returned (.string ⟨#[49, 48, 48, hexD (r / 16), hexD (r % 16)]⟩) ∧ Below w.heap.size w w'
theorem fmtBits_at (r : Nat) (hr : r < 256) (w : World) (hc : w.cell? ⟨6, 15, none⟩ = some (.int .u8 4)) :
    Calls Tryz.prog 44 #[.slice none 0 0, .int .u64 (65536 + (r : Int)), .int .i64 16, .bool false, .bool false] w (FbPost (r / 16) (r % 16) w) := by
  have a0 := and_15 (65536 + r) (by omega)
  have a1 := and_15 (4096 + r / 16) (by omega)
  refine fmtBits_any (65536 + (r : Int)) (4096 + ((r / 16 : Nat) : Int)) (r / 16) (r % 16) (by omega) (by omega) (by omega) (by omega) (by omega) (by omega) ?_ ?_ w hc
  · rw [show (65536 + (r : Int)) = ((65536 + r : Nat) : Int) by omega, a0]
    omega
  · rw [show (4096 + ((r / 16 : Nat) : Int)) = ((4096 + r / 16 : Nat) : Int) by omega, a1]
    omega
set_option maxRecDepth 100000 in
theorem fmtInt_in (r : Nat) (hr : r < 256) (w : World) (hc : w.cell? ⟨6, 15, none⟩ = some (.int .u8 4)) :
    Calls Tryz.prog 39 #[.int .i64 (65536 + (r : Int)), .int .i64 16] w (FmPost r w) := by
  have H := Lib.hid hc
  clear hc
  go_enter Tryz.func39, Tryz.ntmps39
  go_wp2_with fail
  refine (fmtBits_at r hr _ H.out).mono ?_
  rintro e w1 ⟨⟨v, rfl⟩, hb⟩
  have HB := Lib.hid hb
  clear hb
  go_wp2_with fail
  go_ret
  exact ⟨rfl, HB.out⟩
set_option maxRecDepth 100000 in
theorem fmtInt_any (r : Nat) (hr : r < 256) (w : World) (hc : w.cell? ⟨6, 15, none⟩ = some (.int .u8 4)) :
    Calls Tryz.prog 34 #[.int .i64 (65536 + (r : Int)), .int .i64 16] w (FmPost r w) := by
  have H := Lib.hid hc
  clear hc
  go_enter Tryz.func34, Tryz.ntmps34
  go_wp2_with fail
  refine (fmtInt_in r hr _ H.out).mono ?_
  rintro e w1 ⟨rfl, hb⟩
  have HB := Lib.hid hb
  clear hb
  go_wp2_with fail
  go_ret
  exact ⟨rfl, HB.out⟩
end Go.Proofs.YtpgmnggicmbacaaGreatDoor
