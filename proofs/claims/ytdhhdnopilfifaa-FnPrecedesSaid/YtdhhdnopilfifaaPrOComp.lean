/-
  The builder: objectComp.
-/
import Derived.Test.YtdhhdnopilfifaaPrSpecs
namespace Go.Proofs.Ytdhhdnopilfifaa
open Go.RowKit

theorem natI_append (a b : List Nat) : natI (a ++ b) = natI a ++ natI b := by unfold natI; simp
theorem KidsOK.drop {w : World} {n c g off : Nat} {l1 l2 : List Nat} (h : KidsOK w n (some ⟨g, off, none⟩) c (l1 ++ l2)) : KidsOK w n (some ⟨g, off + l1.length, none⟩) (c - l1.length) l2 := by
  obtain ⟨h1, h2, h3, h4⟩ := h
  rw [List.length_append] at h3 h4
  have h5 := h1.drop l1.length
  have e1 : (natI (l1 ++ l2)).drop l1.length = natI l2 := by
    rw [natI_append]
    have : l1.length = (natI l1).length := by unfold natI; simp
    rw [this, List.drop_left]
  rw [e1] at h5
  exact ⟨h5, fun k hk => h2 k (List.mem_append_right _ hk), by omega, by omega⟩
set_option maxRecDepth 100000 in
set_option maxHeartbeats 6400000 in
theorem objectComp_any (X : Cx) (hok : X.OK) (w : World) (h : X.Inv w) (m : Nat) (hN : NodeA X m) (A2 : Option Addr) (cq : Nat) (l : List Nat) (hk : KidsOK w X.n A2 cq l) (hr : CompP X.es l) (hm : ∀ k ∈ l, m ≤ k) :
    Calls Try.prog 64 #[.pointer (some ⟨X.bB, 0, none⟩), .slice A2 l.length cq] w (TyPost X 213 w) := by
  obtain ⟨l1, l2, rfl, hm1, hc1, hs2⟩ := hr
  obtain ⟨a2, r2, hl2, ha2⟩ := hs2.1
  have hle : l1.length < (l1 ++ l2).length := by rw [hl2]; simp
  obtain ⟨g, off, rfl, hgl, -, -⟩ := hk.cell (j := l1.length) (k := a2) (by rw [hl2]; simp)
  have H := Lib.hid h
  have HK := Lib.hid hk
  have HN := Lib.hid hN
  have HM := Lib.hid hm
  have HM1 := Lib.hid hm1
  have HC1 := Lib.hid hc1
  have HS2 := Lib.hid hs2
  have HL2 := Lib.hid hl2
  have HA2 := Lib.hid ha2
  have hll := hk.2.2.1
  have hcap := hk.2.2.2
  have h400 := hok.1
  have hlen : (l1 ++ l2).length = l1.length + l2.length := List.length_append
  clear h hk hN hm hm1 hc1 hs2 hl2 ha2
  generalize (l1 ++ l2).length = N at *
  have HLEN := Lib.hid hlen
  clear hlen
  go_enter Try.func64, Try.ntmps64
  go_wp2_with fail
  go_loopw [5, 6] (fun t u wr => ∃ j f : Nat, j ≤ l1.length ∧ f ≤ j ∧ t = .int .i64 j ∧ u = .int .i64 f ∧ Hid (cntF X.es (l1.take j) = f) ∧ Hid (X.Go w wr)) (fun t _ _ => l1.length + 1 - (intOf t).toNat)
  case atStart => exact ⟨0, 0, Nat.zero_le _, Nat.le_refl _, rfl, rfl, Lib.hid rfl, Lib.hid (H.out.go (Below.refl _ _))⟩
  case round =>
    obtain ⟨j, f, hj, hf, rfl, rfl, HF, HG⟩ := hrel
    by_cases hlt : j < l1.length
    · have hg := List.getElem?_eq_getElem hlt
      have hmm := List.getElem_mem hlt
      generalize l1[j] = k at *
      obtain ⟨e, hek, hke⟩ := HM1.out k hmm
      have hkd : e.kind = 35 ∨ e.kind = 36 := by
        rcases hke with h | ⟨h, -⟩
        · exact .inr h
        · exact .inl h
      have HFS := Lib.hid (show cntF X.es (l1.take (j + 1)) = f + if e.kind == 35 then 1 else 0 from by
        rw [cntF_succ hg, HF.out]
        unfold isF
        rw [hek])
      obtain ⟨g', off', hA, hgw, hc, hkn⟩ := (HG.out.kids H.out HK.out).cell (j := j) (k := k) (by rw [List.getElem?_append_left hlt]; exact hg)
      cases hA
      obtain ⟨e', hek', hbare, hsh, hml, hll2, hgt, c0, c1, c2, c3, c4, b0, hbw, KB0⟩ := at_facts X hok wr HG.out.2 k hkn
      have hee : e' = e := by rw [hek] at hek'; cases hek'; rfl
      subst hee
      have KI := Lib.hid (isSpec_any X k e' wr HG.out.2 h400 hek)
      have HKE := Lib.hid hke
      have HKD := Lib.hid hkd
      have hlt2 : (j : Int) < (N : Int) := by omega
      have hsp : (e'.kind == 38 || e'.kind == 39) = false := by rcases hkd with h | h <;> rw [h] <;> rfl
      have HSP := Lib.hid hsp
      clear hek hek' hke hkd hg hmm hbare hsh hml hll2 hgt KB0 hsp
      go_wp2_with fail
      refine KI.out.mono ?_
      rintro e1 w1 ⟨rfl, rfl⟩
      rw [HSP.out]
      go_upto_region 3 with fail
      have hbBw : X.bB < wr.heap.size := World.block_lt_of_cell? wr _ b0
      go_cut [7] (fun s7 wx => ∃ g : Nat, s7 = .pointer (some ⟨g, 0, none⟩) ∧ Hid (Blk wx g 26 (cellsA e') ∧ Below wr.heap.size wr wx))
      case first =>
        go_region
        all_goals
          go_wp2_with fail
          go_meet
          exact ⟨_, rfl, Lib.hid ⟨(Blk.new _ _ _).drew, (belowS_alloc (Below.refl _ _) _).drew⟩⟩
      case rest =>
        obtain ⟨gb, rfl, HI⟩ := hcut
        obtain ⟨hbx, hb⟩ := HI.out
        have HGc := Lib.hid (HG.out.trans (HG.out.2.go hb))
        have x0 := hbx.cell 0
        have x1 := hbx.cell 1
        have x3 := hbx.cell 3
        simp only [cellsA, List.getElem?_toArray, List.getElem?_cons_zero, List.getElem?_cons_succ] at x0 x1 x3
        clear HI hbx hb c0 c1 c2 c3 c4 b0
        rcases HKE.out with hkd | ⟨hkd, hfl, hop⟩
        · have HFN := Lib.hid (show cntF X.es (l1.take (j + 1)) = f by rw [HFS.out, hkd]; rfl)
          rw [hkd] at x0
          clear hkd HFS HSP HKE HKD KI
          go_wp2_with fail
          go_roundw
          case rel => exact ⟨j + 1, f, by omega, by omega, by go_num, rfl, HFN, HGc⟩
          case measure => simp [intOf]; omega
        · have HFN := Lib.hid (show cntF X.es (l1.take (j + 1)) = f + 1 by rw [HFS.out, hkd]; rfl)
          rw [hkd] at x0
          rw [hfl] at x3
          rw [hop] at x1
          clear hkd hfl hop HFS HSP HKE HKD KI
          go_wp2_with fail
          go_roundw
          case rel => exact ⟨j + 1, f + 1, by omega, by omega, by go_num, by go_num, HFN, HGc⟩
          case measure => simp [intOf]; omega
    · obtain rfl : j = l1.length := by omega
      have hf1 : f = 1 := by rw [← HF.out, List.take_length]; exact HC1.out
      subst hf1
      obtain ⟨e, hek, hm2⟩ := HA2.out
      have hk38 : e.kind = 38 := by simpa using hm2
      obtain ⟨g', off', hA, hgw, hc, hkn⟩ := (HG.out.kids H.out HK.out).cell (j := l1.length) (k := a2) (by rw [HL2.out]; simp)
      cases hA
      have KI := Lib.hid (isSpec_any X a2 e wr HG.out.2 h400 hek)
      have HSP := Lib.hid (show (e.kind == 38 || e.kind == 39) = true by rw [hk38]; rfl)
      have hlt2 : (l1.length : Int) < (N : Int) := by omega
      have hz0 : (0 : Int) ≤ (l1.length : Int) := by omega
      have hz1 : (l1.length : Int) ≤ (N : Int) := by omega
      have hz2 : (l1.length : Int) ≤ (cq : Int) := by omega
      have KM := Lib.hid (fun (w' : World) (hg : X.Go w w') => members_any X hok w' hg.2 m HN.out (some ⟨g, off, none⟩) cq l1 (hg.kids H.out HK.out).take (fun k hk => by
        obtain ⟨x, hx, h⟩ := HM1.out k hk
        rcases h with h | ⟨h, -⟩ <;> exact ⟨x, hx, by simp [h]⟩) (fun k hk => HM.out k (List.mem_append_left _ hk)))
      have KS2 := Lib.hid (fun (w' : World) (hg : X.Go w w') => specs_any2 X hok w' hg.2 m HN.out (some ⟨g, off + l1.length, none⟩) (cq - l1.length) l2 (hg.kids H.out HK.out).drop HS2.out (fun k hk => HM.out k (List.mem_append_right _ hk)))
      have hl2' : l2.length = N - l1.length := by have := HLEN.out; omega
      rw [hl2'] at KS2
      clear hek hm2 hk38 hl2'
      go_wp2_with fail
      refine KI.out.mono ?_
      rintro e1 w1 ⟨rfl, rfl⟩
      rw [HSP.out]
      go_upto_region 11 with fail
      go_region_held3 (fun w' => X.Go w w')
        ((repeat (first | with_reducible exact hk9 | with_reducible exact hk8 | with_reducible exact HG.out | with_reducible apply Cx.Go.drew | with_reducible apply Cx.Go.alloc)))
        (first
          | (go_at_call 63; refine (KM.out _ (by first | exact HG.out.drew | exact HG.out)).mono ?_; rintro e8 w8 ⟨⟨A8, n8, c8, rfl⟩, h8⟩; have hk8 : X.Go w w8 := (by first | exact HG.out.drew.trans h8 | exact HG.out.trans h8))
          | (go_at_call 62; refine (KS2.out _ hk8).mono ?_; rintro e9 w9 ⟨⟨A9, n9, c9, oo, ex, tx, rfl, -⟩, h9⟩; unfold fsCells; have hk9 : X.Go w w9 := hk8.trans h9))
      all_goals
        go_wp2_with fail
        go_ret
        exact ⟨⟨_, rfl⟩, hk9.alloc _⟩
end Go.Proofs.Ytdhhdnopilfifaa
