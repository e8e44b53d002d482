/-
  impl.shaped: a tree whose sizes fit is let in.
-/
import Derived.Test.YtdhhdnopilfifaaPrThin
namespace Go.Proofs.Ytdhhdnopilfifaa
open Go.RowKit

def YesPost (w : World) (e : Ending) (w' : World) : Prop := e = .returned (.bool true) ∧ Below w.heap.size w w'
theorem yes_ok {w w' : World} {v : Value} (hv : v = .bool true) (hb : Below w.heap.size w w') : YesPost w (.returned v) w' := ⟨by rw [hv], hb⟩
set_option maxRecDepth 100000 in
set_option maxHeartbeats 3200000 in
theorem ishaped_any (A : Option Addr) (n c : Nat) (es : List ND) (kl : Nat → List Nat) (hT : Tree es kl) (B : Nat) (w : World) (h : Nodes w B A n es) (hB : B ≤ w.heap.size) (hn : n ≤ 1000000) (hp : 0 < n) (e0 : ND) (he0 : es[0]? = some e0) (hs0 : e0.size = n) :
    Calls Try.prog 21 #[.slice A n c] w (YesPost w) := by
  have HH := Lib.hid h
  have HT := Lib.hid hT
  have hlen : es.length = n := h.1
  have HL := Lib.hid hlen
  obtain ⟨b, o, e', rfl, hbb, hek, -, -, -, -, c4⟩ := h.at_ hp
  rw [he0] at hek
  cases hek
  simp only [Nat.zero_mul, Nat.add_zero] at c4
  rw [hs0] at c4
  have q0 : ((n : Int) == 0) = false := by simp; omega
  clear h hT he0 hs0 hlen
  go_enter Try.func21, Try.ntmps21
  go_wp2_with fail
  go_loopw [3, 4, 5, 6, 21] (fun _ _ _ _ t wr => ∃ j : Nat, j ≤ n ∧ t = .int .i64 j ∧ Hid (Below w.heap.size w wr)) (fun _ _ _ _ t _ => n - (intOf t).toNat)
  case atStart => exact ⟨0, Nat.zero_le _, rfl, Lib.hid (Below.refl _ _)⟩
  case round =>
    obtain ⟨j, hj, rfl, HB⟩ := hrel
    by_cases hlt : j < n
    · obtain ⟨b', o', e, hA, hbb', hej, d0, d1, d2, d3, d4⟩ := (HH.out.below HB.out hB).at_ hlt
      cases hA
      obtain ⟨x, hx, g1, g2, g3⟩ := HT.out j (by rw [HL.out]; exact hlt)
      rw [hej] at hx
      cases hx
      obtain ⟨sz, hsz⟩ : ∃ sz : Nat, e.size = sz := ⟨e.size.toNat, by omega⟩
      rw [hsz] at d4 g1 g2 g3
      have hle : j + sz ≤ n := by have := HL.out; omega
      have HK := Lib.hid (show KidsIs es (j + 1) (j + sz) (kl j) from g3)
      have HB0 := Lib.hid (show Below wr.heap.size wr (wr.alloc (.cells #[.int .i64 e.kind, .int .i64 e.op, .string e.text, .int .i64 e.flag, .int .i64 sz] 26)) from belowS_alloc (Below.refl _ _) _)
      have ws : IntKind.i64.wrap ((n : Int) - j) = (n : Int) - j := IntWalk.i64_in _ (by omega)
      have y1 : ¬ (sz : Int) < 1 := by omega
      have y2 : ¬ (n : Int) - j < sz := by omega
      have y3 : 1 ≤ sz := by omega
      generalize e.kind = ek at *
      generalize e.op = eo at *
      generalize e.text = et at *
      generalize e.flag = ef at *
      clear hej g1 g2 g3 hsz hbb'
      go_wp2_with fail
      go_quiet ((fail))
      go_wp2_with fail
      have HBW := Lib.hid (below_drewN (HB.out.trans (HB0.out.mono HB.out.size)) nq)
      clear HB0 d0 d1 d2 d3 d4 ws y1 y2
      generalize (wr.alloc _).drewN nq = W2 at *
      go_loopw [5] (fun t wx => ∃ k : Nat, k ≤ j + sz ∧ t = .int .i64 k ∧ Hid (∃ l2, KidsIs es k (j + sz) l2) ∧ wx = W2) (fun t _ => j + sz - (intOf t).toNat)
      case atStart => exact ⟨j + 1, by omega, by go_num, Lib.hid ⟨_, HK.out⟩, by trivial⟩
      case round =>
        obtain ⟨k, hk, rfl, HI, rfl⟩ := hrel
        by_cases hkl : k < j + sz
        · obtain ⟨l2, hki⟩ := HI.out
          cases hki with
          | nil => omega
          | cons hy g1 g2 hki =>
            rename_i y l3
            obtain ⟨b', o', e', hA, hbb', hek', -, -, -, -, c4k⟩ := (HH.out.below HBW.out hB).at_ (show k < n by omega)
            cases hA
            rw [hy] at hek'
            cases hek'
            obtain ⟨sk, hsk⟩ : ∃ sk : Nat, y.size = sk := ⟨y.size.toNat, by omega⟩
            rw [hsk] at c4k g1 g2 hki
            have HKI := Lib.hid (show KidsIs es (k + sk) (j + sz) l3 from hki)
            have ws : IntKind.i64.wrap (((j + sz : Nat) : Int) - k) = ((j + sz : Nat) : Int) - k := IntWalk.i64_in _ (by omega)
            have ws2 : IntKind.i64.wrap ((j : Int) + sz - k) = (j : Int) + sz - k := IntWalk.i64_in _ (by omega)
            have y1 : ¬ (sk : Int) < 1 := by omega
            have y2 : ¬ (j : Int) + sz - k < sk := by omega
            have hks : k + sk ≤ j + sz := by omega
            have hsk1 : 1 ≤ sk := by omega
            have hsk2 : sk ≤ 1000000 := by omega
            clear hy hki hbb' hsk g1 g2
            go_wp2_with fail
            go_roundw
            case rel => exact ⟨k + sk, by omega, by go_num, Lib.hid ⟨_, HKI.out⟩, by trivial⟩
            case measure => simp [intOf]; omega
        · obtain rfl : k = j + sz := by omega
          go_wp2_with fail
          go_roundw
          case rel => exact ⟨j + 1, by omega, by go_num, HBW⟩
          case measure => simp [intOf]; omega
    · obtain rfl : j = n := by omega
      go_wp2_with fail
      go_ret
      exact yes_ok rfl HB.out
end Go.Proofs.Ytdhhdnopilfifaa
