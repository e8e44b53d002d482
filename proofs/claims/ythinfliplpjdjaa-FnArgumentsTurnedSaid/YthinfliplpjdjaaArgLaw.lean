/-
  The walk of FnArgumentsTurned: it answers true.
-/
import Derived.Test.YthinfliplpjdjaaParams
namespace Go.Proofs.Ythinfliplpjdjaa
open Go.RowKit

theorem info_str : (Try.prog.info? 9).map (fun i => (i.zero, i.size, i.bytes)) = some (some (.string ByteArray.empty), 1, 16) := by kernel_rfl
theorem heap_new0 (w : World) (o : Obj) : (w.alloc o).heap[w.heap.size]? = some o := heap_alloc_new w o

set_option maxRecDepth 100000 in
set_option maxHeartbeats 3200000 in
theorem argTurned_walk (A : Option Addr) (n c : Nat) (P : List ByteArray) (A2 : Option Addr) (m c2 : Nat) (opt : List Bool) (pos : Int) (A3 : Option Addr) (n3 c3 : Nat) (N : List ByteArray) (w : World) (h : Strs w w.heap.size A n P) (h2 : Bools w w.heap.size A2 m opt) (h3 : Strs w w.heap.size A3 n3 N)
    (hn : n ≤ maxLen) (hm : m ≤ maxLen) (hn3 : n3 ≤ maxLen) (hsp : ∀ s ∈ P, s.size ≤ maxLen) (hsn : ∀ s ∈ N, s.size ≤ maxLen) :
    Calls Try.prog 6 #[.slice A n c, .slice A2 m c2, .int .i64 pos, .slice A3 n3 c3] w fun e w' => e = .returned (.bool true) ∧ Below w.heap.size w w' := by
  have K1 := Lib.hid (zzFits5_any A n c P w.heap.size w h hn hsp)
  have K3 := Lib.hid (zzFits5_any A3 n3 c3 N w.heap.size w h3 hn3 hsn)
  unfold maxLen at hn hm hn3
  have KC := Lib.hid (calls_any A n c P A3 n3 c3 N pos w.heap.size w h h3 (Nat.le_refl _) hn hn3 hsp hsn)
  have H1 := Lib.hid h
  have H2 := Lib.hid h2
  have H3 := Lib.hid h3
  have L1 := Lib.hid (Strs.len h)
  have L3 := Lib.hid (Strs.len h3)
  have HSP := Lib.hid hsp
  have HSN := Lib.hid hsn
  clear h h2 h3 hsp hsn
  obtain ⟨i0, hi, hz, hsz, hb⟩ := info_parts info_str
  go_enter Try.func6, Try.ntmps6
  go_wp2_with fail
  refine K1.out.mono ?_
  rintro e w' ⟨rfl, rfl⟩
  cases fits5 P
  · go_wp2_with fail
    go_ret
    exact ⟨rfl, Below.refl _ _⟩
  by_cases hbig : 2147483647 < m
  · have d2 : decide ((2147483647 : Int) < (m : Int)) = true := by simp; omega
    go_wp2_with fail
    go_ret
    exact ⟨rfl, Below.refl _ _⟩
  have d2 : decide ((2147483647 : Int) < (m : Int)) = false := by simp; omega
  go_wp2_with fail
  refine K3.out.mono ?_
  rintro e w' ⟨rfl, rfl⟩
  cases fits5 N
  · go_wp2_with fail
    go_ret
    exact ⟨rfl, Below.refl _ _⟩
  go_wp2_with fail
  refine KC.out.mono ?_
  rintro e w1 ⟨⟨b, rfl, hx⟩, hb1⟩
  have HX := Lib.hid hx
  have HB1 := Lib.hid hb1
  clear hx hb1 K1 K3 KC
  cases b
  · go_wp2_with fail
    go_ret
    exact ⟨rfl, HB1.out⟩
  obtain ⟨⟨p1, p2⟩, ⟨n1, n2⟩, q1, q2⟩ := HX.out rfl
  rw [L1.out] at p1
  rw [L3.out] at n1
  have PND := Lib.hid p2
  clear HX p2 n2
  by_cases hmn : m = n
  · subst hmn
    obtain ⟨k, rfl⟩ : ∃ k : Nat, pos = (k : Int) := ⟨pos.toNat, by omega⟩
    have hk : k ≤ 200 := by omega
    clear q1 q2
    go_wp2_with fail
    go_loopw [9, 10] (fun u t wr => ∃ q : Nat, q ≤ n3 ∧ t = .int .i64 ((q : Int) - 1) ∧ Hid (Below w.heap.size w wr) ∧ Hid (wr.ownsRow w.heap.size 9 1 u (n3 - q) ((N.reverse.take (n3 - q)).map Value.string))) (fun _ t _ => ((intOf t) + 1).toNat)
    case atStart => exact ⟨n3, Nat.le_refl _, rfl, HB1, Lib.hid (by rw [Nat.sub_self]; exact World.ownsRow_nil _ _ _ _)⟩
    case round =>
      obtain ⟨q, hq, rfl, HB, HO⟩ := hrel
      have hbs := HB.out.size
      rcases q with _ | q
      · have hrev : N.reverse.take (n3 - 0) = N.reverse := List.take_of_length_le (by rw [List.length_reverse, L3.out]; omega)
        have hown := HO.out
        rw [hrev, Nat.sub_zero] at hown
        obtain ⟨At, ct, rfl⟩ : ∃ At ct, u9 = .slice At n3 ct := by
          rcases hown.2 with ⟨rfl, h0⟩ | ⟨g, cap, cur, rfl, _⟩
          · exact ⟨none, 0, by rw [h0]⟩
          · exact ⟨_, cap, rfl⟩
        have HST : Hid (Strs wr wr.heap.size At n3 N.reverse) := Lib.hid (Reads.of_own hown)
        have HSR : Hid (∀ s ∈ N.reverse, s.size ≤ maxLen) := Lib.hid (fun s hs => HSN.out s (List.mem_reverse.1 hs))
        have H1w := Lib.hid ((Reads.below H1.out HB.out).more hbs)
        have H2w := Lib.hid ((Reads.below H2.out HB.out).more hbs)
        have H3w := Lib.hid ((Reads.below H3.out HB.out).more hbs)
        clear hrev hown HO
        obtain ⟨r, hr⟩ : ∃ r, callOk P opt k N = r := ⟨_, rfl⟩
        have KA := Lib.hid (implArgs_any A m c P A2 c2 opt k A3 n3 c3 N wr.heap.size wr H1w.out H2w.out H3w.out (Nat.le_refl _) p1 n1 hk HSP.out HSN.out r hr)
        have hr2 : callOk P opt k N.reverse = r := by rw [callOk_turned]; exact hr
        have HR2 := Lib.hid hr2
        clear hr hr2
        go_wp2_with fail
        refine KA.out.mono ?_
        rintro e w2 ⟨rfl, hb2⟩
        have HB2 := Lib.hid (HB.out.trans (hb2.mono hbs))
        have H1x := Lib.hid (H1w.out.below hb2)
        have H2x := Lib.hid (H2w.out.below hb2)
        have HSTx := Lib.hid (Reads.below HST.out hb2)
        have hs2 := hb2.size
        clear hb2
        go_wp2_with fail
        refine (implArgs_any A m c P A2 c2 opt k At n3 ct N.reverse wr.heap.size w2 H1x.out H2x.out HSTx.out hs2 p1 n1 hk HSP.out HSR.out r HR2.out).mono ?_
        rintro e w3 ⟨rfl, hb3⟩
        have HB3 := Lib.hid (HB2.out.trans (hb3.mono HB2.out.size))
        have H1y := Lib.hid (H1x.out.below (hb3.mono hs2))
        have H2y := Lib.hid (H2x.out.below (hb3.mono hs2))
        have hs3 := hb3.size
        clear hb3
        have hrr : (r == r) = true := by simp
        go_wp2_with fail
        refine (allNamed_any A m c P A2 c2 opt wr.heap.size w3 H1y.out H2y.out (Nat.le_trans hs2 hs3) p1 HSP.out PND.out).mono ?_
        rintro e w4 ⟨rfl, hb4⟩
        have HB4 := Lib.hid (HB3.out.trans (hb4.mono HB3.out.size))
        clear hb4
        go_wp2_with fail
        go_ret
        exact ⟨rfl, HB4.out⟩
      · have e1 : ((q + 1 : Nat) : Int) - 1 = (q : Int) := by omega
        rw [e1]
        obtain ⟨ad, rfl, hbk, hc0⟩ := H3.out.at_ (show q < n3 by omega)
        have hc := (HB.out.cell (p := ad.add q) (by rw [block_of_add]; omega)).trans hc0
        have hql : q < N.length := by rw [L3.out]; omega
        have e0 : N.getD q ByteArray.empty = N[q] := by simp [hql]
        rw [e0] at hc
        have hrev : N.reverse.take (n3 - q) = N.reverse.take (n3 - (q + 1)) ++ [N[q]] := by
          have e2 : n3 - q = n3 - (q + 1) + 1 := by omega
          have hl : n3 - (q + 1) < N.reverse.length := by rw [List.length_reverse, L3.out]; omega
          rw [e2, List.take_succ_eq_append_getElem hl, List.getElem_reverse]
          congr 3
          rw [L3.out]; omega
        have HREV := Lib.hid hrev
        have e3 : n3 - q = n3 - (q + 1) + 1 := by omega
        have E3 := Lib.hid e3
        clear hc0 e0 hrev e3 e1
        generalize N[q] = x at *
        go_wp2_with (at_builtin; refine wpList_append_x _ rfl (.tmp 43) (.tmp 48) 22 rfl w.heap.size 9 i0 _ 1 16 Try.underlying22 hi hz hsz hb rfl (by omega) u9 (n3 - (q + 1)) _ rfl (HO.out.alloc _) (wr.heap.size + 1) (some ⟨wr.heap.size, 0, none⟩) 1 1 [.string x] rfl (Reads.ofBlock (cs := #[.string x]) (heap_new0 _ _) rfl (by omega)) (by simp [Value.oneCell']) (.inr (by omega)) (by unfold maxLen; omega) (by omega) (by simp; omega) (wr.heap.size + 1) (by simp) ?_; intro g2 cap2 w2 hown2 hgrow2 hat2 hlt2)
        have hb2 : Below w.heap.size w w2 := (HB.out.alloc hbs _).grown hgrow2 (by simp; omega) (fun j hj => (HO.out.lt j hj).1)
        clear hgrow2 hat2
        go_roundw
        case rel => exact ⟨q, by omega, by go_num, Lib.hid hb2, Lib.hid (by rw [HREV.out, List.map_append, E3.out]; exact hown2)⟩
        case measure => simp [intOf]
  · have e1 : ((m : Int) != (n : Int)) = true := by simp; omega
    go_wp2_with fail
    go_ret
    exact ⟨rfl, HB1.out⟩
end Go.Proofs.Ythinfliplpjdjaa
