/-
  popIfExists: the top frame goes if it has this number.
-/
import Derived.Test.YtkbjcpeogecbgaaStkOps
import Derived.Deep.QuietTactic
import Derived.BigQuiet
import Derived.Deep.RegionLaw
namespace Go.Proofs.Ytkbjcpeogecbgaa
open Go.RowKit Go.Maps

def TopPost (p : Value) (w : World) (e : Ending) (w' : World) : Prop := e = .returned p ∧ ∃ n, w.drewN n = w'
set_option maxRecDepth 100000 in
theorem top_any (bS g n cap : Nat) (p : Value) (w : World) (c2 : w.cell? ⟨bS, 2, none⟩ = some (.slice (some ⟨g, 0, none⟩) (n + 1) cap)) (r0 : w.cell? ⟨g, n, none⟩ = some p) (hn : n ≤ 1000) :
    Calls Try.prog 25 #[.pointer (some ⟨bS, 0, none⟩)] w (TopPost p w) := by
  have i0 : (0 : Int) ≤ (n : Int) := by omega
  have i1 : (n : Int) < ((n + 1 : Nat) : Int) := by omega
  go_enter Try.func25, Try.ntmps25
  go_wp2
  go_quiet (fail)
  go_wp2
  go_ret
  exact ⟨rfl, _, rfl⟩

theorem si_cut2 {w : World} {base bS : Nat} {F : List (Bool × Bool)} {c lim : Int} {g cap : Nat} {ps : List Value} {t1 t2 : Option Addr} (hB : Blk w bS 47 #[.pointer t1, .pointer t2, .slice (some ⟨g, 0, none⟩) F.length cap, .int .i64 c, .int .i64 lim]) (hO : w.ownsRow base 88 1 (.slice (some ⟨g, 0, none⟩) F.length cap) F.length ps) (hF : Frs w w.heap.size ps F) (hb : base ≤ bS) {q : Nat} (hq : q ≤ F.length) :
    MPost base bS (F.take q) c t1 t2 w (.returned (.tuple #[])) (w.setCell ⟨bS, 2, none⟩ (.slice (some ⟨g, 0, none⟩) q cap)) := by
  obtain ⟨a1, a2, a3, a4, a5⟩ := si_set hB hO hF hb 2 (.slice (some ⟨g, 0, none⟩) q cap)
  have hl : (F.take q).length = q := by simp; omega
  have a2' := own_cut a2 hq
  have a3' := a3.take q
  exact ⟨rfl, ⟨_, ps.take q, lim, by simpa using a1, by rw [hl]; exact a2', a3'⟩, a4, a5⟩

theorem mpost_drew {base bS : Nat} {F : List (Bool × Bool)} {c : Int} {t1 t2 : Option Addr} {w w' : World} {e : Ending} (h : MPost base bS F c t1 t2 w e w') : MPost base bS F c t1 t2 w e w'.drew := ⟨h.1, h.2.1, h.2.2.1.drew, h.2.2.2⟩
def PopPost (base bS : Nat) (F : List (Bool × Bool)) (c val : Int) (w : World) (e : Ending) (w' : World) : Prop :=
  ∃ x1 x2, MPost base bS (if (F.length : Int) = val then popS F c else (F, c)).1 (if (F.length : Int) = val then popS F c else (F, c)).2 x1 x2 w e w'
set_option maxRecDepth 100000 in
set_option maxHeartbeats 3200000 in
theorem pop_any (base bS : Nat) (F : List (Bool × Bool)) (c val : Int) (w : World) (h : SI w base bS F c none none) (hb : base ≤ bS) (hc : -1000 ≤ c ∧ c ≤ 1000) (hl : F.length ≤ 1000) (hv : 1 ≤ val) :
    Calls Try.prog 20 #[.pointer (some ⟨bS, 0, none⟩), .int .i64 val] w (PopPost base bS F c val w) := by
  have HS := Lib.hid h
  obtain ⟨v, ps, lim, hB, hO, hF⟩ := h
  obtain ⟨A, cap, rfl⟩ : ∃ A cap, v = .slice A F.length cap := by
    rcases hO.2 with ⟨rfl, h0⟩ | ⟨g, cap, cur, rfl, _⟩
    · exact ⟨none, 0, by rw [h0]⟩
    · exact ⟨_, cap, rfl⟩
  have c2 := hB.cell 2
  simp only [List.getElem?_toArray, List.getElem?_cons_zero, List.getElem?_cons_succ] at c2
  have HB := Lib.hid hB
  have HO := Lib.hid hO
  have HF := Lib.hid hF
  clear hB hO hF
  by_cases he : (F.length : Int) = val
  · obtain ⟨n, hn⟩ : ∃ n, F.length = n + 1 := ⟨F.length - 1, by omega⟩
    obtain ⟨g, cap', hv'⟩ := own_sl HO.out (by omega)
    injection hv' with hA _ hcap
    subst hA hcap
    obtain ⟨hlc, hcm⟩ := own_cap HO.out
    obtain ⟨p, hp, hfr⟩ := HF.out.at_ (show n < F.length by omega)
    obtain ⟨gf, bm, l1, l2, l3, d, rfl, hgf, -, hBf⟩ := hfr
    have r0 : w.cell? ⟨g, n, none⟩ = some (.pointer (some ⟨gf, 0, none⟩)) := by rw [HO.out.cellAt n (by omega), hp]
    have r5 := hBf.cell 5
    simp only [List.getElem?_toArray, List.getElem?_cons_zero, List.getElem?_cons_succ] at r5
    have HBf := Lib.hid hBf
    have HPS : Hid ((if (F.length : Int) = val then popS F c else (F, c)) = (F.take n, if (F.getD n (false, false)).1 = true then c - 1 else c)) := Lib.hid (by
      rw [if_pos he]
      unfold popS
      rw [hn]
      rfl)
    have e1 : ((F.length : Int) == val) = true := by simpa using he
    have HN := Lib.hid hn
    have KT := Lib.hid (top_any bS g n cap (.pointer (some ⟨gf, 0, none⟩)) w (by rw [← hn]; exact c2) r0 (by omega))
    clear hp hBf he
    generalize F.getD n (false, false) = kk at HPS r5 HBf
    obtain ⟨k1, k2⟩ := kk
    go_enter Try.func20, Try.ntmps20
    go_wp2_with fail
    refine KT.out.mono ?_
    rintro e w1 ⟨rfl, nd, hwd⟩
    have HBd : Hid (Blk w1 bS 47 #[.pointer none, .pointer none, .slice (some ⟨g, 0, none⟩) F.length cap, .int .i64 c, .int .i64 lim]) := Lib.hid (by rw [← hwd]; exact HB.out)
    have HOd : Hid (w1.ownsRow base 88 1 (.slice (some ⟨g, 0, none⟩) F.length cap) F.length ps) := Lib.hid (by rw [← hwd]; exact HO.out)
    have HFd : Hid (Frs w1 w1.heap.size ps F) := Lib.hid (by rw [← hwd]; exact HF.out)
    have HBw : Hid (Below base w w1) := Lib.hid (by rw [← hwd]; exact ⟨rfl, rfl, rfl, Nat.le_refl _, fun _ _ => rfl⟩)
    have HKw : Hid (KeptT w w1) := Lib.hid (by rw [← hwd]; exact KeptT.refl w)
    have HBfd : Hid (Blk w1 gf 90 #[.pointer l1, .pointer l2, .map (some bm), .pointer l3, .int .i64 d, .bool k1, .bool k2]) := Lib.hid (by rw [← hwd]; exact HBf.out)
    have r0d : w1.cell? ⟨g, n, none⟩ = some (.pointer (some ⟨gf, 0, none⟩)) := by rw [← hwd]; exact r0
    clear hwd HB HO HF HBf HS r0 r5 c2 KT
    have r5 := HBfd.out.cell 5
    have c3 := HBd.out.cell 3
    have f3 := HBd.out.frozen 3
    simp only [List.getElem?_toArray, List.getElem?_cons_zero, List.getElem?_cons_succ] at r5 c3
    have KS := Lib.hid (fun c W (hW : SI W base bS F c none none) => setTrace_any base bS F c l1 l2 W hW hb)
    have i0 : (0 : Int) ≤ (n : Int) := by omega
    have i1 : (n : Int) < (n : Int) + 1 := by omega
    have ew : IntKind.i64.wrap (n : Int) = (n : Int) := IntWalk.i64_in _ (by omega)
    cases k1
    · have r6 := HBfd.out.cell 0
      have r7 := HBfd.out.cell 1
      have c2 := HBd.out.cell 2
      simp only [List.getElem?_toArray, List.getElem?_cons_zero, List.getElem?_cons_succ] at r6 r7 c2
      have HBx := HBw
      have HKx := HKw
      have HSd : Hid (SI w1.drew base bS F c none none) := Lib.hid ⟨_, ps, lim, HBd.out, HOd.out, HFd.out⟩
      go_wp2_with fail
      go_region_law ((go_simp; go_at_call 14; refine (KS.out c _ HSd.out).mono ?_; rintro e w2 ⟨rfl, hm2, hb2, hk2⟩))
      all_goals
        have HB2 := Lib.hid (HBx.out.drew.trans hb2)
        have HK2 := Lib.hid (HKx.out.drew.trans hk2)
        obtain ⟨v', ps', lim', hB', hO', hF'⟩ := hm2
        obtain ⟨g', cap', rfl⟩ := own_sl hO' (by omega)
        obtain ⟨hlc', hcm'⟩ := own_cap hO'
        have c2' := hB'.cell 2
        have f2' := hB'.frozen 2
        simp only [List.getElem?_toArray, List.getElem?_cons_zero, List.getElem?_cons_succ] at c2'
        have HB' := Lib.hid hB'
        have HO' := Lib.hid hO'
        have HF' := Lib.hid hF'
        clear hB' hO' hF' hb2 hk2
        have hlc2 : n ≤ cap' := by omega
        go_wp2_with fail
        go_region
        all_goals
          go_end0
          refine ⟨l1, l2, ?_⟩
          rw [HPS.out]
          first | exact MPost.trans HB2.out.drew HK2.out.drew (si_cut2 (w := w2.drew) HB'.out HO'.out HF'.out hb (by omega)) | exact mpost_drew (MPost.trans HB2.out HK2.out (si_cut2 HB'.out HO'.out HF'.out hb (by omega)))
    · have hcw : IntKind.i64.wrap (c - 1) = c - 1 := IntWalk.i64_in _ (by omega)
      have S3 := si_set HBd.out HOd.out HFd.out hb 3 (.int .i64 (c - 1))
      have hbx : Blk (w1.setCell ⟨bS, 3, none⟩ (.int .i64 (c - 1))) bS 47 #[.pointer none, .pointer none, .slice (some ⟨g, 0, none⟩) F.length cap, .int .i64 (c - 1), .int .i64 lim] := by simpa using S3.1
      have HSd : Hid (SI (w1.setCell ⟨bS, 3, none⟩ (.int .i64 (c - 1))).drew base bS F (c - 1) none none) := Lib.hid ⟨_, ps, lim, hbx, S3.2.1, S3.2.2.1⟩
      have hbf := HBfd.out.keptT S3.2.2.2.2 (by decide) (by decide)
      have r6 := hbf.cell 0
      have r7 := hbf.cell 1
      have c2 := hbx.cell 2
      simp only [List.getElem?_toArray, List.getElem?_cons_zero, List.getElem?_cons_succ] at r6 r7 c2
      have r0x : (w1.setCell ⟨bS, 3, none⟩ (.int .i64 (c - 1))).cell? ⟨g, n, none⟩ = some (.pointer (some ⟨gf, 0, none⟩)) := by
        have := S3.2.1.cellAt n (by omega)
        rw [this]
        have := HOd.out.cellAt n (by omega)
        rw [← this]; exact r0d
      have HBx := Lib.hid (HBw.out.trans S3.2.2.2.1)
      have HKx := Lib.hid (HKw.out.trans S3.2.2.2.2)
      clear S3 hbx hbf
      go_wp2_with fail
      go_region_law ((go_simp; go_at_call 14; refine (KS.out (c - 1) _ HSd.out).mono ?_; rintro e w2 ⟨rfl, hm2, hb2, hk2⟩))
      all_goals
        have HB2 := Lib.hid (HBx.out.drew.trans hb2)
        have HK2 := Lib.hid (HKx.out.drew.trans hk2)
        obtain ⟨v', ps', lim', hB', hO', hF'⟩ := hm2
        obtain ⟨g', cap', rfl⟩ := own_sl hO' (by omega)
        obtain ⟨hlc', hcm'⟩ := own_cap hO'
        have c2' := hB'.cell 2
        have f2' := hB'.frozen 2
        simp only [List.getElem?_toArray, List.getElem?_cons_zero, List.getElem?_cons_succ] at c2'
        have HB' := Lib.hid hB'
        have HO' := Lib.hid hO'
        have HF' := Lib.hid hF'
        clear hB' hO' hF' hb2 hk2
        have hlc2 : n ≤ cap' := by omega
        go_wp2_with fail
        go_region
        all_goals
          go_end0
          refine ⟨l1, l2, ?_⟩
          rw [HPS.out]
          first | exact MPost.trans HB2.out.drew HK2.out.drew (si_cut2 (w := w2.drew) HB'.out HO'.out HF'.out hb (by omega)) | exact mpost_drew (MPost.trans HB2.out HK2.out (si_cut2 HB'.out HO'.out HF'.out hb (by omega)))
  · have e1 : ((F.length : Int) == val) = false := by simpa using he
    have HE := Lib.hid he
    clear he
    go_enter Try.func20, Try.ntmps20
    go_wp2_with fail
    go_end0
    refine ⟨none, none, ?_⟩
    rw [if_neg HE.out]
    exact ⟨rfl, HS.out, Below.refl _ _, KeptT.refl _⟩
end Go.Proofs.Ytkbjcpeogecbgaa
