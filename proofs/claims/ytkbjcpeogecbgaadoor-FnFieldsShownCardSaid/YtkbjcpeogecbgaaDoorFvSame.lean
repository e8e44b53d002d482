/-
  sameNames7: are two lists of names one list.
-/
import Derived.Test.YtkbjcpeogecbgaaDoorFvRestr
import Derived.Deep.QuietTactic
import Derived.BigQuiet
namespace Go.Proofs.YtkbjcpeogecbgaaDoor
open Go.RowKit Go.Maps

theorem take_next {xs ys : List ByteArray} {k : Nat} {a b : ByteArray} (hx : xs[k]? = some a) (hy : ys[k]? = some b) (h : xs.take k = ys.take k) (e : a = b) : xs.take (k + 1) = ys.take (k + 1) := by
  rw [List.take_add_one, List.take_add_one, hx, hy, h, e]
theorem str_beq (a b : ByteArray) : (a.toList == b.toList) = decide (a = b) := by
  rw [ByteArray.toList_eq, ByteArray.toList_eq]
  by_cases h : a = b
  · subst h; simp
  · have : a.data.toList ≠ b.data.toList := fun e => h (WideShapes.bytes_inj e)
    rw [decide_eq_false h]
    exact beq_eq_false_iff_ne.2 this
theorem below_drewN {B : Nat} {w w' : World} (h : Below B w w') : ∀ q, Below B w (w'.drewN q)
  | 0 => h
  | q + 1 => (below_drewN h q).drew
def SmPost (xs ys : List ByteArray) (w : World) (e : Ending) (w' : World) : Prop := (∃ b, e = .returned (.bool b) ∧ (b = true ↔ xs = ys)) ∧ Below w.heap.size w w'
set_option maxRecDepth 100000 in
set_option maxHeartbeats 1600000 in
theorem same_any (xs ys : List ByteArray) (A A2 : Option Addr) (n c n2 c2 B : Nat) (w : World) (h1 : Strs w B A n xs) (h2 : Strs w B A2 n2 ys) (hB : B ≤ w.heap.size) (hn : n ≤ 1000000) (hn2 : n2 ≤ 1000000) :
    Calls Tryd.prog 11 #[.slice A n c, .slice A2 n2 c2] w (SmPost xs ys w) := by
  have H1 := Lib.hid h1
  have H2 := Lib.hid h2
  have L1 := Lib.hid h1.len
  have L2 := Lib.hid h2.len
  clear h1 h2
  by_cases hnn : n = n2
  · subst hnn
    go_enter Tryd.func11, Tryd.ntmps11
    go_wp2_with fail
    go_loopw [5] (fun t wr => ∃ k : Nat, k ≤ n ∧ t = .int .i64 k ∧ Hid (Below w.heap.size w wr) ∧ Hid (xs.take k = ys.take k)) (fun t _ => n - (intOf t).toNat)
    case atStart => exact ⟨0, Nat.zero_le _, rfl, Lib.hid (Below.refl _ _), Lib.hid rfl⟩
    case round =>
      obtain ⟨k, hk, rfl, HB, HT⟩ := hrel
      by_cases hlt : k < n
      · obtain ⟨ad, rfl, hb1, c1⟩ := Strs.at_ (Reads.below H1.out (HB.out.mono hB)) hlt
        obtain ⟨ad2, rfl, hb2, c2⟩ := Strs.at_ (Reads.below H2.out (HB.out.mono hB)) hlt
        have hj1 : k < xs.length := by rw [L1.out]; exact hlt
        have hj2 : k < ys.length := by rw [L2.out]; exact hlt
        have e1 : xs.getD k ByteArray.empty = xs[k] := by simp [hj1]
        have e2 : ys.getD k ByteArray.empty = ys[k] := by simp [hj2]
        have g1 := List.getElem?_eq_getElem hj1
        have g2 := List.getElem?_eq_getElem hj2
        rw [e1] at c1
        rw [e2] at c2
        generalize xs[k] = a at *
        generalize ys[k] = b at *
        have G1 := Lib.hid g1
        have G2 := Lib.hid g2
        clear e1 e2 g1 g2 hj1 hj2
        have d1 := fun (q : Nat) => (show (wr.drewN q).cell? (ad.add k) = some (.string a) from c1)
        have d2 := fun (q : Nat) => (show (wr.drewN q).cell? (ad2.add k) = some (.string b) from c2)
        have HBQ := fun q => Lib.hid (below_drewN HB.out q)
        by_cases hab : a = b
        · have q1 : (a.toList == b.toList) = true := by rw [str_beq]; exact decide_eq_true hab
          have q2 : (a.toList != b.toList) = false := by rw [bne, q1]; rfl
          have HN := Lib.hid (take_next G1.out G2.out HT.out hab)
          clear hab
          go_wp2_with fail
          go_quiet ((fail))
          go_wp2_with fail
          go_roundw
          case rel => exact ⟨k + 1, by omega, by go_num, HBQ _, HN⟩
          case measure => simp [intOf]; omega
        · have q1 : (a.toList == b.toList) = false := by rw [str_beq]; exact decide_eq_false hab
          have q2 : (a.toList != b.toList) = true := by rw [bne, q1]; rfl
          have HN : Hid (xs ≠ ys) := Lib.hid (fun e => hab (by subst e; have := G1.out.symm.trans G2.out; cases this; rfl))
          clear hab
          go_wp2_with fail
          go_quiet ((fail))
          go_wp2_with fail
          go_ret
          exact ⟨⟨_, rfl, ⟨fun h => by simp at h, fun h => absurd h HN.out⟩⟩, (HBQ _).out⟩
      · obtain rfl : k = n := by omega
        have hxy : xs = ys := by
          have := HT.out
          rwa [List.take_of_length_le (by rw [L1.out]; exact Nat.le_refl _), List.take_of_length_le (by rw [L2.out]; exact Nat.le_refl _)] at this
        have HX := Lib.hid hxy
        clear hxy
        go_wp2_with fail
        go_ret
        exact ⟨⟨_, rfl, ⟨fun _ => HX.out, fun _ => rfl⟩⟩, HB.out⟩
  · have hnn' : ((n : Int) != (n2 : Int)) = true := by simp; omega
    go_enter Tryd.func11, Tryd.ntmps11
    go_wp2_with fail
    go_ret
    exact ⟨⟨_, rfl, ⟨fun h => by simp at h, fun h => absurd (by rw [← L1.out, ← L2.out, h]) hnn⟩⟩, Below.refl _ _⟩
end Go.Proofs.YtkbjcpeogecbgaaDoor
