/-
  Right: nodes are the tree of an expression.
-/
import Derived.Test.YtdhhdnopilfifaaPrBare2
namespace Go.Proofs.Ytdhhdnopilfifaa
open Go.RowKit

/-- A right tree: each node has its kids, as its kind says. -/
def RightT (es : List ND) (kl : Nat → List Nat) : Prop := Tree es kl ∧ ∀ i e, es[i]? = some e → BareP e ∧ ShapeP es e (kl i)
def RightP (es : List ND) : Prop := ∃ (kl : Nat → List Nat) (e0 : ND), RightT es kl ∧ es[0]? = some e0 ∧ e0.size = (es.length : Int) ∧ 1 ≤ e0.kind ∧ e0.kind ≤ 30
theorem tree_sz {es : List ND} {n : Nat} {e0 : ND} (hl : es.length = n) (he : es[0]? = some e0) (hs : e0.size = n) (h : SzP es 0 n) : ∃ kl, Tree es kl := by
  obtain ⟨x, hx, h1, h2, h3⟩ := h
  rw [he] at hx
  cases hx
  refine tree_of fun i hi => h3 i (Nat.zero_le _) ?_
  rw [hs]
  omega
set_option maxRecDepth 100000 in
set_option maxHeartbeats 3200000 in
theorem Right_any (A : Option Addr) (n c : Nat) (es : List ND) (B : Nat) (w : World) (h : Nodes w B A n es) (hB : B ≤ w.heap.size) (hn : n ≤ 1000000) (ht : ∀ e ∈ es, e.text.size ≤ 2147483647) :
    Calls Try.prog 10 #[.slice A n c] w (BPost (RightP es) w) := by
  have HH := Lib.hid h
  have HT := Lib.hid ht
  have HLE := Lib.hid h.1
  by_cases h0 : n = 0
  · subst h0
    clear h ht
    go_enter Try.func10, Try.ntmps10
    go_wp2_with fail
    go_ret
    exact BPost.ret rfl (fun h => by cases h) (Below.refl _ _)
  · have hpos : 0 < n := by omega
    have q0 : ((n : Int) == 0) = false := by simp; omega
    obtain ⟨b, o, e0, rfl, hbb, hek, -, -, -, -, c4⟩ := h.at_ hpos
    have HE0 := Lib.hid hek
    simp only [Nat.zero_mul, Nat.add_zero] at c4
    clear h ht hek h0
    by_cases hs : e0.size = n
    · have q1 : (e0.size != (n : Int)) = false := by rw [hs]; simp
      have HS := Lib.hid hs
      rw [hs] at c4
      clear hs q1
      have K1 := Lib.hid (sized_any (some ⟨b, o, none⟩) n c es B (by omega) n 0 n w HH.out hB hpos (Nat.le_refl _) (by omega))
      go_enter Try.func10, Try.ntmps10
      go_wp2_with fail
      refine K1.out.mono ?_
      rintro e1 w1 ⟨⟨b1, rfl, hb1⟩, hw1⟩
      have HB1 := Lib.hid hw1
      cases b1
      · clear hb1 hw1
        go_wp2_with fail
        go_ret
        exact BPost.ret rfl (fun h => by cases h) HB1.out
      · obtain ⟨kl, hkl⟩ := tree_sz HLE.out HE0.out HS.out (hb1 (by trivial))
        have HK := Lib.hid hkl
        clear hb1 hw1 hkl
        have K2 := Lib.hid (expr_any (some ⟨b, o, none⟩) n c es B w1 (HH.out.below HB1.out hB) 0 hpos (by omega))
        go_wp2_with fail
        refine K2.out.mono ?_
        rintro e2 w2 ⟨⟨b2, rfl, hb2⟩, hw2⟩
        have HB2 := Lib.hid (HB1.out.trans (hw2.mono HB1.out.size))
        cases b2
        · clear hb2 hw2
          go_wp2_with fail
          go_ret
          exact BPost.ret rfl (fun h => by cases h) HB2.out
        · have HX := Lib.hid (hb2 (by trivial))
          clear hb2 hw2
          go_wp2_with fail
          go_loopw [3] (fun t wr => ∃ j : Nat, j ≤ n ∧ t = .int .i64 j ∧ Hid (∀ i e, i < j → es[i]? = some e → BareP e ∧ ShapeP es e (kl i)) ∧ Hid (Below w.heap.size w wr)) (fun t _ => n - (intOf t).toNat)
          case atStart => exact ⟨0, Nat.zero_le _, rfl, Lib.hid (fun i e hi => by omega), HB2⟩
          case round =>
            obtain ⟨j, hj, rfl, HI, HB⟩ := hrel
            by_cases hlt : j < n
            · obtain ⟨b', o', e, hA, hbb', hej, d0, d1, d2, d3, d4⟩ := (HH.out.below HB.out hB).at_ hlt
              cases hA
              have HEJ := Lib.hid hej
              have KB := Lib.hid (fun (w' : World) => bare_any e (HT.out e (List.mem_of_getElem? HEJ.out)) w')
              clear hej hbb'
              go_wp2_with fail
              refine (KB.out _).mono ?_
              rintro e3 w3 ⟨⟨b3, rfl, hb3⟩, hw3⟩
              have HB3 := Lib.hid (HB.out.trans (hw3.mono HB.out.size))
              cases b3
              · clear hb3 hw3
                go_wp2_with fail
                go_ret
                exact BPost.ret rfl (fun h => by cases h) HB3.out
              · have hbare := hb3 (by trivial)
                have HBR := Lib.hid hbare
                have K3 := Lib.hid (shaped_any (some ⟨b, o, none⟩) n c es B w3 (HH.out.below HB3.out hB) (Nat.le_trans hB HB3.out.size) hn j e HEJ.out (kl j) (HK.out j (by rw [HLE.out]; exact hlt)) hbare)
                clear hb3 hw3 hbare
                go_wp2_with fail
                refine K3.out.mono ?_
                rintro e4 w4 ⟨⟨b4, rfl, hb4⟩, hw4⟩
                have HB4 := Lib.hid (HB3.out.trans (hw4.mono HB3.out.size))
                cases b4
                · clear hb4 hw4
                  go_wp2_with fail
                  go_ret
                  exact BPost.ret rfl (fun h => by cases h) HB4.out
                · have hsh := hb4 (by trivial)
                  have HN : Hid (∀ i e, i < j + 1 → es[i]? = some e → BareP e ∧ ShapeP es e (kl i)) := Lib.hid (fun i x h1 h2 => by
                    rcases Nat.lt_or_ge i j with g | g
                    · exact HI.out i x g h2
                    · obtain rfl : i = j := by omega
                      have := HEJ.out.symm.trans h2
                      cases this
                      exact ⟨HBR.out, hsh⟩)
                  clear hb4 hw4 hsh
                  go_wp2_with fail
                  go_roundw
                  case rel => exact ⟨j + 1, by omega, by go_num, HN, HB4⟩
                  case measure => simp [intOf]; omega
            · obtain rfl : j = n := by omega
              have HP : Hid (RightP es) := Lib.hid (by
                obtain ⟨x, hx, g1, g2⟩ := HX.out
                rw [HE0.out] at hx
                cases hx
                exact ⟨kl, e0, ⟨HK.out, fun i e he => HI.out i e (by rw [← HLE.out]; exact (List.getElem?_eq_some_iff.1 he).1) he⟩, HE0.out, by rw [HLE.out]; exact HS.out, g1, g2⟩)
              go_wp2_with fail
              go_ret
              exact BPost.ret rfl (fun _ => HP.out) HB.out
    · have q1 : (e0.size != (n : Int)) = true := by simpa using hs
      clear hs
      generalize e0.size = sz at *
      go_enter Try.func10, Try.ntmps10
      go_wp2_with fail
      go_ret
      exact BPost.ret rfl (fun h => by cases h) (Below.refl _ _)
end Go.Proofs.Ytdhhdnopilfifaa
