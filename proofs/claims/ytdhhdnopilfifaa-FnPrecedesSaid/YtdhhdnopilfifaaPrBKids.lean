/-
  The builder's kids; count; operators.
-/
import Derived.Test.YtdhhdnopilfifaaPrLeaf
namespace Go.Proofs.Ytdhhdnopilfifaa
open Go.RowKit

set_option maxRecDepth 100000 in
set_option maxHeartbeats 1600000 in
theorem bkids_any (X : Cx) (w : World) (hI : X.Inv w) (hn : X.n ≤ 400) (at_ : Nat) (l : List Nat) (hf : FitN X.es X.es.length at_ l) :
    Calls Try.prog 41 #[.pointer (some ⟨X.bB, 0, none⟩), .int .i64 at_] w (KdPost l w) := by
  have b0 := hI.2.2.2.1.cell 0
  simp only [Cx.cells, List.getElem?_toArray, List.getElem?_cons_zero] at b0
  have hbl := hI.2.2.2.1.lt
  have hB := hI.2.1
  have h := hI.1
  obtain ⟨b, o, n, c, es, kl, B, bB, pl, cp⟩ := X
  simp only at b0 hbl hB h hn hf
  clear hI
  have HH := Lib.hid h
  have HL := Lib.hid h.1
  obtain ⟨x, hx, hx1, hx2, hk⟩ := hf
  obtain ⟨i0, hi, hz, hsz, hbb⟩ := info_parts info_int
  have hat : at_ < n := by have := (List.getElem?_eq_some_iff.1 hx).1; rw [h.1] at this; exact this
  obtain ⟨b', o', e, hA, hbB, hek, -, -, -, -, c4⟩ := h.at_ hat
  cases hA
  rw [hx] at hek
  cases hek
  have hle : (at_ : Int) + x.size ≤ n := by rw [← h.1]; exact hx2
  obtain ⟨sz, hsz0⟩ : ∃ sz : Nat, x.size = sz := ⟨x.size.toNat, by omega⟩
  rw [hsz0] at c4 hx1 hle hk
  have hlen := hk.len
  have HK := Lib.hid (show KidsIs es (at_ + 1) (at_ + sz) l from hk)
  clear h hx hx2 hsz0 hk
  have hle2 : at_ + sz ≤ n := by omega
  go_enter Try.func41, Try.ntmps41
  go_wp2_with fail
  go_loopw [5, 6] (fun u t wr => ∃ k : Nat, at_ + 1 ≤ k ∧ k ≤ at_ + sz ∧ t = .int .i64 k ∧ Hid (KiI es at_ l w wr u k (at_ + sz))) (fun _ t _ => at_ + sz - (intOf t).toNat)
  case atStart => exact ⟨at_ + 1, Nat.le_refl _, by omega, by go_num, Lib.hid ⟨[], l, rfl, HK.out, World.ownsRow_nil _ _ _ _, Below.refl _ _⟩⟩
  case round =>
    obtain ⟨k, hk1, hk2, rfl, HI⟩ := hrel
    obtain ⟨l1, l2, hl, hki, hrow, hb⟩ := HI.out
    have HB := Lib.hid hb
    have HR := Lib.hid hrow
    have HLL := Lib.hid hl
    have hb1 := hb.size
    have b0r := (HB.out.cell (p := ⟨bB, 0, none⟩) hbl).trans b0
    have c4r := (HB.out.cell (p := ⟨b, o + at_ * 5 + 4, none⟩) (by show b < _; omega)).trans c4
    by_cases hlt : k < at_ + sz
    · have hll : l1.length + l2.length = l.length := by rw [hl]; simp
      cases hki with
      | nil => omega
      | cons hy g1 g2 hki =>
        rename_i y l3
        obtain ⟨b', o', e', he', hbb', hek', -, -, -, -, c4k⟩ := (HH.out.below HB.out hB).at_ (show k < n by omega)
        cases he'
        rw [hy] at hek'
        cases hek'
        obtain ⟨sk, hsk⟩ : ∃ sk : Nat, y.size = sk := ⟨y.size.toNat, by omega⟩
        rw [hsk] at c4k g1 g2 hki
        have HKI := Lib.hid (show KidsIs es (k + sk) (at_ + sz) l3 from hki)
        simp only [List.length_cons] at hll
        clear hy hki hrow hb hl hbb' hsk
        go_wp2_with (at_builtin; refine wpList_append_x _ rfl (.tmp 31) (.tmp 33) 77 rfl w.heap.size 3 i0 _ 1 8 Try.underlying77 hi hz hsz hbb rfl (by omega) u5 l1.length _ rfl (HR.out.alloc _) (wr.heap.size + 1) (some ⟨wr.heap.size, 0, none⟩) 1 1 [.int .i64 k] rfl (Reads.ofBlock (cs := #[.int .i64 k]) (heap_alloc_new _ _) rfl (by omega)) (by simp [Value.oneCell']) (.inr (by omega)) (by unfold maxLen; omega) (by omega) (by simp; omega) (wr.heap.size + 1) (by simp) ?_; intro g2' cap2 w2 hown2 hgrow2 hat2 hlt2; have hsw : (wr.alloc (.cells #[.int .i64 k] 3)).heap.size = wr.heap.size + 1 := (by simp); have hbw2 := (HB.out.alloc hb1 (.cells #[.int .i64 k] 3)).grown hgrow2 (by omega) (fun j hj => (HR.out.lt j hj).1); have b0w := (hbw2.cell (p := ⟨bB, 0, none⟩) hbl).trans b0; have c4k2 := (hbw2.cell (p := ⟨b, o + k * 5 + 4, none⟩) (by show b < _; omega)).trans ((HB.out.cell (p := ⟨b, o + k * 5 + 4, none⟩) (by show b < _; omega)).symm.trans c4k))
        have HN := Lib.hid (show KiI es at_ l w w2 (.slice (some ⟨g2', 0, none⟩) (l1.length + 1) cap2) (k + sk) (at_ + sz) from
          ⟨l1 ++ [k], l3, by rw [HLL.out]; simp, HKI.out, by
            have : (natI (l1 ++ [k])).map (Value.int .i64) = (natI l1).map (Value.int .i64) ++ [.int .i64 k] := by simp [natI]
            rw [this, List.length_append]
            exact hown2, hbw2⟩)
        clear hown2 hgrow2 hat2 hbw2 hsw
        go_roundw
        case rel => exact ⟨k + sk, by omega, by omega, by go_num, HN⟩
        case measure => simp [intOf]; omega
    · obtain rfl : k = at_ + sz := by omega
      have hl2 : l2 = [] := by
        cases hki with
        | nil => rfl
        | cons hy g1 g2 hki => omega
      subst hl2
      have hl1 : l = l1 := by rw [hl]; simp
      subst hl1
      clear hl hki
      obtain ⟨A5, c5, rfl⟩ := own_form hrow
      clear hrow hb
      go_wp2_with fail
      go_ret
      exact ⟨⟨A5, c5, rfl, HR.out⟩, HB.out⟩
/-- So many kids: nothing is noted. -/
theorem count_any (X : Cx) (w : World) (A2 : Option Addr) (c2 m : Nat) (lo hi : Int) (h1 : lo ≤ m) (h2 : (m : Int) ≤ hi) :
    Calls Try.prog 50 #[.pointer (some ⟨X.bB, 0, none⟩), .slice A2 m c2, .int .i64 lo, .int .i64 hi] w (YesPost w) := by
  have q1 : ¬ (m : Int) < lo := by omega
  have q2 : ¬ hi < (m : Int) := by omega
  go_enter Try.func50, Try.ntmps50
  go_wp2_with fail
  go_ret
  exact yes_ok rfl (Below.refl _ _)
theorem unaryOp_any (op : Int) (w : World) (h : 1 ≤ op ∧ op ≤ 4) : Calls Try.prog 56 #[.int .i64 op] w (fun e w' => (∃ u : Int, e = .returned (.tuple #[.int .i64 u, .bool true])) ∧ Below w.heap.size w w') := by
  have hc : op = 1 ∨ op = 2 ∨ op = 3 ∨ op = 4 := by omega
  clear h
  rcases hc with rfl | rfl | rfl | rfl
  all_goals
    go_enter Try.func56, Try.ntmps56
    go_wp2_with fail
    go_ret2
    exact ⟨⟨_, rfl⟩, Below.refl _ _⟩
end Go.Proofs.Ytdhhdnopilfifaa
