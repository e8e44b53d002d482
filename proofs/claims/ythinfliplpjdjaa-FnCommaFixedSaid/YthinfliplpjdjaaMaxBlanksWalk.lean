/-
  The walk of FnMaxBlanks: it answers true.
-/
import Derived.Test.YthinfliplpjdjaaMaxBlanks
namespace Go.Proofs.Ythinfliplpjdjaa
open Go.RowKit

theorem Blk.four {w : World} {g : Nat} {t : TypeId} {a b c d : Value} (h : Blk w g t #[a, b, c, d]) :
    w.cell? ⟨g, 0, none⟩ = some a ∧ w.cell? ⟨g, 1, none⟩ = some b ∧ w.cell? ⟨g, 2, none⟩ = some c ∧ w.cell? ⟨g, 3, none⟩ = some d ∧ ∀ i, w.frozen? ⟨g, i, none⟩ = false :=
  ⟨h.cell 0, h.cell 1, h.cell 2, h.cell 3, h.frozen⟩

theorem elementOk_facts {k b i : Int} {cs : List ByteArray} (h : elementOk k b i cs = true) : 0 ≤ k ∧ k ≤ 2 ∧ cs.length ≤ 20 := by
  simp only [elementOk, Bool.and_eq_true, decide_eq_true_eq] at h
  obtain ⟨⟨⟨_, _, _, _, hl⟩, _⟩, hk⟩ := h
  unfold kindOk at hk
  split at hk
  · omega
  · split at hk
    · omega
    · simp only [decide_eq_true_eq] at hk
      omega
theorem zzFits8_any (k b i : Int) (A : Option Addr) (n c : Nat) (cs : List ByteArray) (B : Nat) (w : World) (h : Strs w B A n cs) (hB : B ≤ w.heap.size) (hn : n ≤ maxLen) (hs : ∀ s ∈ cs, s.size ≤ maxLen) :
    Calls Try.prog 9 #[.agg #[.int .i64 k, .int .i64 b, .int .i64 i, .slice A n c]] w fun e w' => e = .returned (.bool (fits5 cs)) ∧ Below w.heap.size w w' := by
  have HH := Lib.hid h
  have HS := Lib.hid hs
  clear h hs
  go_enter Try.func9, Try.ntmps9
  go_wp2_with fail
  refine (zzFits5_any A n c cs B _ (HH.out.alloc hB _) hn HS.out).mono ?_
  rintro e w1 ⟨rfl, rfl⟩
  cases hf : fits5 cs
  all_goals
    go_wp2
    go_ret
    exact ⟨by first | rfl | (rw [hf]; rfl), (Below.refl _ _).alloc (Nat.le_refl _) _⟩

set_option maxRecDepth 100000 in
set_option maxHeartbeats 1600000 in
theorem maxBlanks_walk (k b i most : Int) (A : Option Addr) (n c : Nat) (cs : List ByteArray) (w : World) (h : Strs w w.heap.size A n cs) (hn : n ≤ maxLen) (hs : ∀ s ∈ cs, s.size ≤ maxLen) :
    Calls Try.prog 3 #[.agg #[.int .i64 k, .int .i64 b, .int .i64 i, .slice A n c], .int .i64 most] w fun e w' => e = .returned (.bool true) ∧ Below w.heap.size w w' := by
  have HH := Lib.hid h
  have HS := Lib.hid hs
  have HN := Lib.hid hn
  clear h hs hn
  go_enter Try.func3, Try.ntmps3
  go_wp2_with fail
  refine (zzFits8_any k b i A n c cs w.heap.size _ (HH.out.alloc (Nat.le_refl _) _) (by simp) HN.out HS.out).mono ?_
  rintro e w1 ⟨rfl, hb1⟩
  have hk1 : Blk w1 w.heap.size 24 #[.int .i64 k, .int .i64 b, .int .i64 i, .slice A n c] := (Blk.new w _ _).below hb1 (by simp)
  have hbel1 : Below w.heap.size w w1 := ((Below.refl _ _).alloc (Nat.le_refl _) _).trans (hb1.mono (by simp))
  obtain ⟨c0, c1, c2, c3, -⟩ := hk1.four
  have HK1 := Lib.hid hk1
  have HB1 := Lib.hid hbel1
  clear hk1 hbel1 hb1
  cases hF : fits5 cs
  · go_wp2
    go_ret
    exact ⟨rfl, HB1.out⟩
  go_wp2_with fail
  refine (element_any k b i A n c cs w.heap.size _ (HH.out.below HB1.out) HB1.out.size HN.out HS.out).mono ?_
  rintro e w2 ⟨rfl, hb2⟩
  have hk2 := HK1.out.below hb2 HK1.out.lt
  have hbel2 := HB1.out.trans (hb2.mono HB1.out.size)
  clear c0 c1 c2 c3
  obtain ⟨c0, c1, c2, c3, -⟩ := hk2.four
  have HK2 := Lib.hid hk2
  have HB2 := Lib.hid hbel2
  clear hk2 hbel2 hb2
  cases hE : elementOk k b i cs
  · go_wp2
    go_ret
    exact ⟨rfl, HB2.out⟩
  have HE := Lib.hid (elementOk_facts hE)
  by_cases hk : k = 1
  · have hk' : (k == 1) = true := by simpa using hk
    clear hk
    go_wp2
    go_ret
    exact ⟨rfl, HB2.out⟩
  have hk' : (k == 1) = false := by simpa using hk
  have hkn : (k != 1) = true := by simpa using hk
  have hk0 : 0 ≤ k := HE.out.1
  have hk2 : k ≤ 2 := HE.out.2.1
  clear hk
  by_cases h0 : most < 0
  · go_wp2
    go_ret
    exact ⟨rfl, HB2.out⟩
  by_cases h1 : 1000 < most
  · go_wp2
    go_ret
    exact ⟨rfl, HB2.out⟩
  have hn20 : n ≤ 20 := by have := HE.out.2.2; rw [HH.out.len] at this; exact this
  go_wp2_with fail
  refine (maxBlanks_any k b i most A n c cs w.heap.size _ (HH.out.below HB2.out) HB2.out.size (by omega) hk0 hk2 hkn).mono ?_
  rintro e w3 ⟨A3, n3, rfl, hst3, hb3⟩
  have hk3 := HK2.out.below hb3 HK2.out.lt
  have hbel3 := HB2.out.trans (hb3.mono HB2.out.size)
  clear c0 c1 c2 c3
  obtain ⟨c0, c1, c2, c3, cf⟩ := hk3.four
  have hlt3 : w.heap.size < w3.heap.size := hk3.lt
  have hne3 : ¬ w.heap.size = w3.heap.size := by omega
  have hown : (Value.slice A3 n n3).ownBlock ≠ some w.heap.size := by
    intro h
    have := (hst3.lt _ h).1
    have := HK2.out.lt
    omega
  have HK3 := Lib.hid hk3
  have HB3 := Lib.hid hbel3
  have HST3 := Lib.hid hst3
  have HOWN := Lib.hid hown
  clear hk3 hbel3 hb3 hst3 hown
  go_wp2_with fail
  · have hc : cutTo most b = most := if_pos (by omega)
    rw [hc]
    refine (sameElement_true k most i A3 A n n3 c cs (w3.heap.size + 1) _ (Reads.more (Reads.of_own ((ownsRow_setCell_other HST3.out HOWN.out _).alloc _)) (by simp [World.setCell])) (Reads.more ((Reads.setCell (HH.out.below HB3.out) (by exact Nat.le_refl _) _).alloc (by simp [World.setCell]; omega) _) (by omega)) (by simp [World.setCell]) (by omega)).mono ?_
    rintro e w4 ⟨rfl, hb4⟩
    have hbel4 := Lib.hid (((HB3.out.setCell (p := ⟨w.heap.size, 1, none⟩) (Nat.le_refl _) _).alloc (by simp [World.setCell]; omega) _).trans (hb4.mono (by simp [World.setCell]; omega)))
    clear hb4
    go_wp2
    go_ret
    exact ⟨rfl, hbel4.out⟩
  · have hc : cutTo most b = b := if_neg (by omega)
    rw [hc]
    refine (sameElement_true k b i A3 A n n3 c cs (w3.heap.size + 1) _ (Reads.more (Reads.of_own ((ownsRow_setCell_other HST3.out HOWN.out _).alloc _)) (by simp [World.setCell])) (Reads.more ((Reads.setCell (HH.out.below HB3.out) (by exact Nat.le_refl _) _).alloc (by simp [World.setCell]; omega) _) (by omega)) (by simp [World.setCell]) (by omega)).mono ?_
    rintro e w4 ⟨rfl, hb4⟩
    have hbel4 := Lib.hid (((HB3.out.setCell (p := ⟨w.heap.size, 1, none⟩) (Nat.le_refl _) _).alloc (by simp [World.setCell]; omega) _).trans (hb4.mono (by simp [World.setCell]; omega)))
    clear hb4
    go_wp2
    go_ret
    exact ⟨rfl, hbel4.out⟩
end Go.Proofs.Ythinfliplpjdjaa
