/-
  zzFits1, Light, thin: what the guards tell.
-/
import Derived.Test.YtdhhdnopilfifaaPrLight
namespace Go.Proofs.Ytdhhdnopilfifaa
open Go.RowKit

def TextOK (es : List ND) : Prop := ∀ e ∈ es, e.text.size ≤ 2147483647
theorem zzFits2_any (e : ND) (hs : e.text.size ≤ maxLen) (w : World) : Calls Try.prog 9 #[.agg #[.int .i64 e.kind, .int .i64 e.op, .string e.text, .int .i64 e.flag, .int .i64 e.size]] w (BPost (e.text.size ≤ 2147483647) w) := by
  unfold maxLen at hs
  obtain ⟨W1, hW1, hb0, hs0, x0, x1, x2, x3, x4⟩ := box_facts e w
  have HB0 := Lib.hid hb0
  clear hb0
  by_cases h : 2147483647 < e.text.size
  · go_enter Try.func9, Try.ntmps9
    go_wp2_with fail
    go_ret
    exact BPost.ret rfl (fun h => by cases h) HB0.out
  · have h' : ¬ (2147483647 : Int) < (e.text.size : Int) := by omega
    have HP := Lib.hid (show e.text.size ≤ 2147483647 by omega)
    clear h
    go_enter Try.func9, Try.ntmps9
    go_wp2_with fail
    go_ret
    exact BPost.ret rfl (fun _ => by first | exact HP.out | trivial) HB0.out
set_option maxRecDepth 100000 in
theorem zzFits1_any (A : Option Addr) (n c : Nat) (es : List ND) (B : Nat) (w : World) (h : Nodes w B A n es) (hB : B ≤ w.heap.size) (hn : n ≤ maxLen) (hs : SoundN es) :
    Calls Try.prog 4 #[.slice A n c] w (BPost (TextOK es ∧ n ≤ 2147483647) w) := by
  unfold maxLen at hn
  have HH := Lib.hid h
  have HS := Lib.hid hs
  have HL := Lib.hid h.1
  clear h hs
  by_cases hbig : 2147483647 < n
  · go_enter Try.func4, Try.ntmps4
    go_wp2_with fail
    go_ret
    exact BPost.ret rfl (fun h => by cases h) (Below.refl _ _)
  · have hb' : ¬ (2147483647 : Int) < (n : Int) := by omega
    have hn' : n ≤ 2147483647 := by omega
    clear hbig
    go_enter Try.func4, Try.ntmps4
    go_wp2_with fail
    go_loopw [10] (fun i wr => ∃ k : Nat, k ≤ n ∧ i = .int .i64 k ∧ Hid (Below w.heap.size w wr) ∧ Hid (∀ j e, j < k → es[j]? = some e → e.text.size ≤ 2147483647)) (fun i _ => n - (intOf i).toNat)
    case atStart => exact ⟨0, Nat.zero_le _, rfl, Lib.hid (Below.refl _ _), Lib.hid (fun j e hj _ => by omega)⟩
    case round =>
      obtain ⟨k, hk, rfl, HB, HI⟩ := hrel
      by_cases hlt : k < n
      · obtain ⟨b, o, e, rfl, hbb, hek, c0, c1, c2, c3, c4⟩ := (HH.out.below HB.out hB).at_ hlt
        have HE := Lib.hid hek
        have HX := Lib.hid (show Below wr.heap.size wr (wr.alloc (.cells #[.int .i64 e.kind, .int .i64 e.op, .string e.text, .int .i64 e.flag, .int .i64 e.size] 26)) from belowS_alloc (Below.refl _ _) _)
        have KZ := Lib.hid (fun (w' : World) => zzFits2_any e (HS.out e (List.mem_of_getElem? HE.out)).1 w')
        clear hek
        go_wp2_with fail
        refine (KZ.out _).mono ?_
        rintro e1 w1 ⟨⟨b1, rfl, hb1⟩, hw1⟩
        have HB1 := Lib.hid (HB.out.trans ((HX.out.trans (hw1.mono HX.out.size)).mono HB.out.size))
        cases b1
        · clear hb1 hw1
          go_wp2_with fail
          go_ret
          exact BPost.ret rfl (fun h => by cases h) HB1.out
        · have ht := hb1 (by trivial)
          have HN : Hid (∀ j e, j < k + 1 → es[j]? = some e → e.text.size ≤ 2147483647) := Lib.hid (fun j x h1 h2 => by
            rcases Nat.lt_or_ge j k with g | g
            · exact HI.out j x g h2
            · obtain rfl : j = k := by omega
              have := HE.out.symm.trans h2
              cases this
              exact ht)
          clear hb1 hw1 ht
          go_wp2_with fail
          go_roundw
          case rel => exact ⟨k + 1, by omega, by go_num, HB1, HN⟩
          case measure => simp [intOf]; omega
      · obtain rfl : k = n := by omega
        have HP : Hid (TextOK es ∧ k ≤ 2147483647) := Lib.hid ⟨fun e he => by
          obtain ⟨j, hj, rfl⟩ := List.getElem_of_mem he
          exact HI.out j _ (by rw [← HL.out]; exact hj) (List.getElem?_eq_getElem hj), hn'⟩
        go_wp2_with fail
        go_ret
        exact BPost.ret rfl (fun _ => by first | exact HP.out | exact HP.out.1) HB.out
theorem Light_any (A : Option Addr) (n c : Nat) (es : List ND) (kl : Nat → List Nat) (hT : Tree es kl) (B : Nat) (w : World) (h : Nodes w B A n es) (hB : B ≤ w.heap.size) (hn : n ≤ 1000000) (hp : 0 < n) :
    Calls Try.prog 11 #[.slice A n c] w (AnyB w) := by
  have HH := Lib.hid h
  have K1 := Lib.hid (weight_any A n c es kl hT B hn n 0 w h hB hp (by omega))
  have K2 := Lib.hid (fun (w' : World) (hb : Below w.heap.size w w') => tangled_any A n c es kl hT B hn n 0 0 w' (h.below hb hB) (Nat.le_trans hB hb.size) hp (by omega))
  clear h hT
  go_enter Try.func11, Try.ntmps11
  go_wp2_with fail
  refine K1.out.mono ?_
  rintro e1 w1 ⟨⟨r, rfl⟩, hb1⟩
  have HB1 := Lib.hid hb1
  have K3 := Lib.hid (K2.out w1 hb1)
  clear hb1 K2 K1
  by_cases hr : r ≤ 20000
  · go_wp2_with fail
    refine K3.out.mono ?_
    rintro e2 w2 ⟨⟨r2, rfl⟩, hb2⟩
    have HB2 := Lib.hid (HB1.out.trans (hb2.mono HB1.out.size))
    clear hb2
    by_cases hr2 : r2 ≤ 4
    · go_wp2_with fail
      go_ret
      exact AnyB.ok rfl HB2.out
    · go_wp2_with fail
      go_ret
      exact AnyB.ok rfl HB2.out
  · go_wp2_with fail
    go_ret
    exact AnyB.ok rfl HB1.out
theorem RightP.pos {es : List ND} (h : RightP es) : 0 < es.length := by
  obtain ⟨kl, e0, h1, h2, -⟩ := h
  exact (List.getElem?_eq_some_iff.1 h2).1
set_option maxRecDepth 100000 in
set_option maxHeartbeats 1600000 in
theorem thin_any (A : Option Addr) (n c : Nat) (es : List ND) (B : Nat) (w : World) (h : Nodes w B A n es) (hB : B ≤ w.heap.size) (hn : n ≤ 2147483647) (ht : TextOK es) :
    Calls Try.prog 5 #[.slice A n c] w (BPost (RightP es ∧ n ≤ 400) w) := by
  have HH := Lib.hid h
  have HT := Lib.hid ht
  have HL := Lib.hid h.1
  clear h ht
  by_cases hbig : 400 < n
  · go_enter Try.func5, Try.ntmps5
    go_wp2_with fail
    go_ret
    exact BPost.ret rfl (fun h => by cases h) (Below.refl _ _)
  · have hb' : ¬ (400 : Int) < (n : Int) := by omega
    have hn' : n ≤ 400 := by omega
    clear hbig
    go_enter Try.func5, Try.ntmps5
    go_wp2_with fail
    go_loopw [3, 4] (fun u i wr => ∃ (k a : Nat), k ≤ n ∧ a ≤ 4000 ∧ u = .int .i64 a ∧ i = .int .i64 k ∧ wr = w) (fun _ i _ => n - (intOf i).toNat)
    case atStart => exact ⟨0, 0, Nat.zero_le _, by omega, rfl, rfl, by first | rfl | trivial⟩
    case round =>
      obtain ⟨k, a, hk, ha, rfl, rfl, rfl⟩ := hrel
      by_cases hlt : k < n
      · obtain ⟨b, o, e, rfl, hbb, hek, c0, c1, c2, c3, c4⟩ := HH.out.at_ hlt
        have hts := HT.out e (List.mem_of_getElem? hek)
        clear hek
        generalize e.text = tx at *
        by_cases hm : tx.size ≤ 4001
        · have hm1 : (tx.size : Int) ≤ 4001 := by omega
          have wr1 : IntKind.i64.wrap ((a : Int) + tx.size) = (a : Int) + tx.size := IntWalk.i64_in _ (by omega)
          by_cases hs : a + tx.size ≤ 4000
          · have hs1 : ¬ (4000 : Int) < (a : Int) + tx.size := by omega
            go_wp2_with fail
            all_goals
              go_roundw
              case rel => exact ⟨k + 1, a + tx.size, by omega, hs, by go_num, by go_num, by trivial⟩
              case measure => simp [intOf]; omega
          · have hs1 : (4000 : Int) < (a : Int) + tx.size := by omega
            go_wp2_with fail
            all_goals
              go_ret
              exact BPost.ret rfl (fun h => by cases h) (Below.refl _ _)
        · have hm1 : (4001 : Int) < tx.size := by omega
          have hm2 : ¬ (tx.size : Int) ≤ 4001 := by omega
          have wr1 : IntKind.i64.wrap ((a : Int) + 4001) = (a : Int) + 4001 := IntWalk.i64_in _ (by omega)
          have hs1 : (4000 : Int) < (a : Int) + 4001 := by omega
          go_wp2_with fail
          all_goals
            go_ret
            exact BPost.ret rfl (fun h => by cases h) (Below.refl _ _)
      · obtain rfl : k = n := by omega
        have K1 := Lib.hid (Right_any A k c es B wr HH.out hB (by omega) HT.out)
        go_wp2_with fail
        refine K1.out.mono ?_
        rintro e1 w1 ⟨⟨b1, rfl, hb1⟩, hw1⟩
        have HB1 := Lib.hid hw1
        cases b1
        · clear hb1 hw1
          go_wp2_with fail
          go_ret
          exact BPost.ret rfl (fun h => by cases h) HB1.out
        · have hr := hb1 (by trivial)
          have HR := Lib.hid hr
          have hp := hr.pos
          obtain ⟨kl, e0, hrt, -⟩ := hr
          have K2 := Lib.hid (Light_any A k c es kl hrt.1 B w1 (HH.out.below HB1.out hB) (Nat.le_trans hB HB1.out.size) (by omega) (by rw [← HL.out]; exact hp))
          clear hb1 hw1 hrt hp
          go_wp2_with fail
          refine K2.out.mono ?_
          rintro e2 w2 ⟨⟨b2, rfl⟩, hw2⟩
          have HB2 := Lib.hid (HB1.out.trans (hw2.mono HB1.out.size))
          have HP : Hid (RightP es ∧ k ≤ 400) := Lib.hid ⟨HR.out, hn'⟩
          clear hw2
          go_wp2_with fail
          go_ret
          exact BPost.ret rfl (fun _ => by first | exact HP.out | exact HP.out.1) HB2.out
end Go.Proofs.Ytdhhdnopilfifaa
