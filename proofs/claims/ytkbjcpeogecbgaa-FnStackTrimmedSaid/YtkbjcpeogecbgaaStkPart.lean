/-
  PartStack: what the stack is behind each step, as the plain law says.
-/
import Derived.Test.YtkbjcpeogecbgaaStkApp
import Derived.Deep.RegionLaw
import Derived.Deep.RegionHeld3
import Derived.Deep.DeepCutAuto
import Derived.Deep.CutBlock
namespace Go.Proofs.Ytkbjcpeogecbgaa
open Go.RowKit Go.Maps

theorem pi_start {w w1 w2 : World} {lim : Int} {l : List SS} {o : Obj} (hb1 : Below w.heap.size w w1)
    (hb2 : Below (w1.alloc (.cells #[.pointer none, .pointer none, .slice none 0 0, .int .i64 0, .int .i64 lim] 47)).heap.size (w1.alloc (.cells #[.pointer none, .pointer none, .slice none 0 0, .int .i64 0, .int .i64 lim] 47)) w2) :
    PI w (w2.alloc o) w1.heap.size l 0 (.slice none 0 0) (.slice none 0 0) (.slice none 0 0) := by
  have s1 := hb1.size
  have s2 := hb2.size
  simp at s2
  have hB := ((Blk.new w1 47 #[.pointer none, .pointer none, .slice none 0 0, .int .i64 0, .int .i64 lim]).below hb2 (by simp)).alloc o
  refine ⟨none, none, [], ⟨_, [], lim, hB, World.ownsRow_nil _ _ _ _, Frs.nil _ _⟩, ⟨KeptI.refl _, Below.refl _ _, by simp; omega, World.ownsRow_nil _ _ _ _, World.ownsRow_nil _ _ _ _, World.ownsRow_nil _ _ _ _, ?_, ?_, ?_, fun _ _ hx => by cases hx⟩, ?_⟩
  · intro g hg; cases hg
  · intro g hg; cases hg
  · intro g hg; cases hg
  · exact ((hb1.trans ((Below.refl _ _).alloc s1 _)).trans (hb2.mono (by simp; omega))).alloc (by omega) _

theorem pi_next {w wc wC : World} {bS k : Nat} {l : List SS} {F : List (Bool × Bool)} {c a : Int} {x1 x2 : Option Addr} {pd : List (Nat × Value)} {v0 v1 v2 : Value} {l0 : List Value} (hr : runS (l.take (k + 1)) = (F, c)) (hS : SI wc w.heap.size bS F c x1 x2)
    (hM : M3 wc wC w.heap.size pd v0 (k + 1) (l0 ++ [.int .i64 a]) v1 (k + 1) (lensV l k ++ [.int .i64 (F.length : Int)]) v2 (k + 1) (callsV l k ++ [.int .i64 c])) (hb : Below w.heap.size w wc) : PI w wC bS l (k + 1) v0 v1 v2 := by
  refine ⟨x1, x2, l0 ++ [.int .i64 a], ?_, ?_, hb.trans hM.bel⟩
  · rw [hr]; exact hS.keptI hM.keep
  · rw [lensV_succ, callsV_succ, hr]
    exact ⟨KeptI.refl _, Below.refl _ _, hM.bw, hM.o0, hM.o1, hM.o2, hM.d01, hM.d02, hM.d12, fun _ _ hx => by cases hx⟩
theorem pi_end {w wr : World} {bS n : Nat} {l : List SS} {u2 u3 u4 : Value} (h : PI w wr bS l n u2 u3 u4) : ∃ A0 A1 A2 c0 c1 c2, (u2 = .slice A0 n c0 ∧ u3 = .slice A1 n c1 ∧ u4 = .slice A2 n c2) ∧ Reads wr wr.heap.size 1 A1 n (lensV l n) ∧ Reads wr wr.heap.size 1 A2 n (callsV l n) ∧ Below w.heap.size w wr := by
  obtain ⟨t1, t2, l0, -, hM, hb⟩ := h
  obtain ⟨A0, c0, rfl⟩ := own_form hM.o0
  obtain ⟨A1, c1, rfl⟩ := own_form hM.o1
  obtain ⟨A2, c2, rfl⟩ := own_form hM.o2
  exact ⟨A0, A1, A2, c0, c1, c2, ⟨rfl, rfl, rfl⟩, Reads.of_own hM.o1, Reads.of_own hM.o2, hb⟩
theorem KeptI.alloc {a b : World} (h : KeptI a b) (o : Obj) : KeptI a (b.alloc o) := h.trans (KeptI.of_below ((Below.refl _ _).alloc (Nat.le_refl _) _))
theorem keepI2 {wc w' : World} {bS : Nat} {v0 v1 v2 v3 v4 : Value} (hb : Blk wc bS 47 #[v0, v1, v2, v3, v4]) (hk : KeptI wc w') : w'.cell? ⟨bS, 2, none⟩ = some v2 ∧ w'.cell? ⟨bS, 3, none⟩ = some v3 :=
  ⟨(hb.keptI hk (by decide)).cell 2, (hb.keptI hk (by decide)).cell 3⟩

set_option maxRecDepth 100000 in
set_option maxHeartbeats 6400000 in
theorem part_any (A : Option Addr) (n c : Nat) (es : List SE) (B : Nat) (w : World) (h : Steps w B A n es) (hB : B ≤ w.heap.size) (hn : n ≤ 100) (hok : ∀ e ∈ es, OkS e) (hs : SoundS es) :
    Calls Try.prog 9 #[.slice A n c] w (PtPost (es.map ssOf) n w) := by
  have HH := Lib.hid h
  have HOK := Lib.hid hok
  have HS := Lib.hid hs
  have HL := Lib.hid h.1
  clear h hok hs
  go_enter Try.func9, Try.ntmps9
  go_wp2_with (first
    | (go_at_call 11; refine (mkStack_any _ _).mono ?_; rintro e w1 ⟨rfl, hb1⟩)
    | (go_at_call 12; refine (mkLoc_any _ _).mono ?_; rintro e w2 ⟨rfl, hb2⟩))
  have hbS : w.heap.size ≤ w1.heap.size := hb1.size
  go_loopw [2, 3, 4, 17] (fun u2 u3 u4 t wr => ∃ k : Nat, k ≤ n ∧ t = .int .i64 k ∧ Hid (PI w wr w1.heap.size (es.map ssOf) k u2 u3 u4)) (fun _ _ _ t _ => n - (intOf t).toNat)
  case atStart => exact ⟨0, Nat.zero_le _, rfl, Lib.hid (pi_start hb1 hb2)⟩
  case round =>
    obtain ⟨k, hk, rfl, HP⟩ := hrel
    clear hb1 hb2
    generalize w1.heap.size = bS at *
    generalize w2.heap.size = bL at *
    by_cases hlt : k < n
    · obtain ⟨t1, t2, l0, hSI, hM, hB0⟩ := HP.out
      obtain ⟨b, o, e, rfl, hb, hek, hstr, c0, c1, c2, c3, c4⟩ := (HH.out.below hB0 hB).at_ hlt
      have hws : w.heap.size ≤ wr.heap.size := hB0.size
      have HE := Lib.hid hek
      have HT := Lib.hid hstr
      have HSI := Lib.hid hSI
      have HM := Lib.hid hM
      have HB0 := Lib.hid hB0
      have hmem := List.mem_of_getElem? hek
      have HOE := Lib.hid (HOK.out e hmem)
      have HSE := Lib.hid (HS.out e hmem)
      have HRun : Hid (runS ((es.map ssOf).take (k + 1)) = stepS (runS ((es.map ssOf).take k)) (ssOf e)) := Lib.hid (by
        have h1 : (es.map ssOf)[k]? = some (ssOf e) := by rw [List.getElem?_map, hek]; rfl
        obtain ⟨h2, h3⟩ := List.getElem?_eq_some_iff.1 h1
        rw [List.take_succ_eq_append_getElem h2, runS_snoc, h3])
      have HBd := Lib.hid (runS_bd (es.map ssOf) k)
      clear hSI hM hB0 hek hstr hmem
      have hbx : Below wr.heap.size wr (wr.alloc (.cells (cells5 e).toArray 36)) := (Below.refl _ _).alloc (Nat.le_refl _) _
      have HX := Lib.hid hbx
      have HBX := Lib.hid (Blk.new wr 36 (cells5 e).toArray)
      clear hbx
      obtain ⟨kk, A', m, c', ns, nm, num, tr⟩ := e
      simp only [cells5] at c0 c1 c2 c3 c4 HT HSE HX HBX
      go_wp2_with fail
      generalize hW1 : wr.alloc (.cells #[.int .i64 kk, .slice A' m c', .string nm, .int .i64 num, .bool tr] 36) = W1 at *
      clear hW1
      refine (clear_any w.heap.size bS _ _ _ _ _ (HSI.out.same HX.out) hbS).mono ?_
      rintro e3 w3 ⟨rfl, hm3, hb3, hk3⟩
      have HM3 := Lib.hid hm3
      have HB3 := Lib.hid (Below.trans (HX.out.mono hws) hb3)
      have HK3 := Lib.hid ((KeptT.of_below HX.out).trans hk3)
      have hbx3 := HBX.out.keptT hk3 (by decide) (by decide)
      have HBX3 := Lib.hid hbx3
      have q0 := hbx3.cell 0
      simp only [List.getElem?_toArray, List.getElem?_cons_zero] at q0
      clear hm3 hb3 hk3 hbx3
      go_upto_block 2 with fail
      go_cut [9] (fun s9 wx => (∃ a : Int, s9 = .int .i64 a) ∧ Hid (PC w wr wx bS (es.map ssOf) k))
      case first =>
        clear HP HM HSI HX HBX q0
        generalize runS (List.take k (es.map ssOf)) = sk at *
        obtain ⟨F, cc⟩ := sk
        obtain ⟨hd1, hd2, hd3⟩ := HBd.out
        obtain ⟨ok1, ok2, ok3, ok4, ok5⟩ := HOE.out
        simp only at hd1 hd2 hd3 ok1 ok2 ok3 ok4 ok5
        have hbx3 := HBX3.out
        have q0 := hbx3.cell 0
        have q1 := hbx3.cell 1
        have q2 := hbx3.cell 2
        have q3 := hbx3.cell 3
        have q4 := hbx3.cell 4
        simp only [List.getElem?_toArray, List.getElem?_cons_zero, List.getElem?_cons_succ] at q0 q1 q2 q3 q4
        clear hbx3 HBd HOE
        have OK3 := Lib.hid ok3
        have OK4 := Lib.hid ok4
        clear ok3 ok4
        have HT3 : Hid (Strs w3 w3.heap.size A' m ns) := Lib.hid (Reads.more (Reads.below HT.out (HB3.out.mono hB)) (by have := HB3.out.size; omega))
        obtain rfl | rfl | rfl | rfl | rfl : kk = 1 ∨ kk = 2 ∨ kk = 3 ∨ kk = 4 ∨ kk = 5 := by omega
        · obtain ⟨i, rfl, hi⟩ := OK4.out (.inl rfl)
          go_wp2_with fail
          refine (setTrace_any w.heap.size bS F cc (some ⟨bL, 0, none⟩) none w3 HM3.out hbS).mono ?_
          rintro e4 w4 ⟨rfl, hm4, hb4, hk4⟩
          have HM4 := Lib.hid hm4
          have HB4 := Lib.hid (HB3.out.trans hb4)
          have HK4 := Lib.hid (HK3.out.trans hk4)
          have hbx4 := HBX3.out.keptT hk4 (by decide) (by decide)
          have HT4 : Hid (Strs w4 w4.heap.size A' m ns) := Lib.hid (Reads.more (Reads.below HT.out (HB4.out.mono hB)) (by have := HB4.out.size; omega))
          have HBX4 := Lib.hid hbx4
          clear q0 q1 q2 q3 q4 HM3 HB3 HK3 HBX3 HT3 hm4 hb4 hk4
          have q0 := hbx4.cell 0
          have q1 := hbx4.cell 1
          have q2 := hbx4.cell 2
          have q3 := hbx4.cell 3
          have q4 := hbx4.cell 4
          simp only [List.getElem?_toArray, List.getElem?_cons_zero, List.getElem?_cons_succ] at q0 q1 q2 q3 q4
          have hlx := hbx4.lt
          clear hbx4
          go_wp2_with fail
          go_region_law (first
            | (go_simp; go_at_call 17; refine (bound_any 1 A' m c' ns nm i tr w4.heap.size _ (Reads.drew HT4.out) (Nat.le_refl _) ok5 HSE.out.2.2 hi).mono ?_; rintro e6 wB ⟨⟨b4, rfl, hmB⟩, hbB⟩; have hbB' : Below w4.heap.size w4 wB := Below.trans (Below.refl w4.heap.size w4).drew hbB; have pB := (HBX4.out.below hbB' hlx).cell 4; simp only [List.getElem?_toArray, List.getElem?_cons_zero, List.getElem?_cons_succ] at pB)
            | (go_simp; go_at_call 18; refine (unbound_any _).mono ?_; rintro e7 wU ⟨rfl, hbU⟩; have hbU' : Below w4.heap.size w4 wU := hbB'.trans (hbU.mono hbB'.size); have pU := (HBX4.out.below hbU' hlx).cell 4; simp only [List.getElem?_toArray, List.getElem?_cons_zero, List.getElem?_cons_succ] at pU)
            | (go_simp; go_at_call 16; refine (mkEnv_any b4 none 123456789 _).mono ?_; rintro e8 wE ⟨rfl, hbE⟩; have hbE' : Below w4.heap.size w4 wE := hbU'.trans (hbE.mono hbU'.size); have pE := (HBX4.out.below hbE' hlx).cell 4; simp only [List.getElem?_toArray, List.getElem?_cons_zero, List.getElem?_cons_succ] at pE)
            | (go_simp; go_at_call 15; refine (newCall_any w.heap.size bS b4 F cc 123456789 ⟨bL, 0, none⟩ none none tr wE (HM4.out.same hbE') hbS ⟨by omega, by omega⟩ (by omega) (MapN.more (hmB.below ((hbU.mono (Nat.le_refl _)).trans (hbE.mono hbU.size)) (Nat.le_refl _)) (Nat.le_trans hbU.size hbE.size))).mono ?_; rintro e9 w5 ⟨rfl, hm5, hb5, hk5⟩))
          all_goals
            have HPC : Hid (PC w wr w5 bS (es.map ssOf) k) := Lib.hid (pc_mk (X := (F ++ [(true, tr)], cc + 1)) (HRun.out.trans (by simp [stepS, ssOf])) hm5 (HB4.out.trans ((hbE'.mono (by have := HK4.out.1; omega)).trans hb5)) (HK4.out.trans ((KeptT.of_below hbE').trans hk5)))
            clear hm5 hb5 hk5 hbB hbU hbE hbB' hbU' hbE' pB pU pE hmB
            go_wp2_with fail
            go_meet
            exact ⟨⟨_, rfl⟩, HPC⟩
        · obtain ⟨i, rfl, hi⟩ := OK4.out (.inr rfl)
          go_wp2_with fail
          refine (bound_any 2 A' m c' ns nm i tr _ w3 HT3.out (Nat.le_refl _) ok5 HSE.out.2.2 hi).mono ?_
          rintro e4 w4 ⟨⟨b4, rfl, hm4⟩, hb4⟩
          have HM4 := Lib.hid hm4
          have HB4 := Lib.hid hb4
          clear hm4 hb4
          go_wp2_with fail
          refine (newLocal_any w.heap.size bS b4 F cc none none w4 (HM3.out.same HB4.out) hbS (by omega) HM4.out).mono ?_
          rintro e5 w5 ⟨rfl, hm5, hb5, hk5⟩
          have HPC : Hid (PC w wr w5 bS (es.map ssOf) k) := Lib.hid (pc_mk (X := (F ++ [(false, false)], cc)) (HRun.out.trans (by simp [stepS, ssOf])) hm5 (HB3.out.trans ((HB4.out.mono (Nat.le_trans hws HK3.out.1)).trans hb5)) (HK3.out.trans ((KeptT.of_below HB4.out).trans hk5)))
          clear hm5 hb5 hk5
          go_wp2_with fail
          go_meet
          exact ⟨⟨_, rfl⟩, HPC⟩
        · have hnum := OK3.out rfl
          go_wp2_with fail
          refine (pop_any w.heap.size bS F cc num w3 HM3.out hbS (by omega) (by omega) hnum).mono ?_
          rintro e5 w5 ⟨x1, x2, rfl, hm5, hb5, hk5⟩
          have HPC : Hid (PC w wr w5 bS (es.map ssOf) k) := Lib.hid (pc_mk (X := if (F.length : Int) = num then popS F cc else (F, cc)) (HRun.out.trans (by by_cases hq : (F.length : Int) = num <;> simp [stepS, ssOf, hq])) hm5 (HB3.out.trans hb5) (HK3.out.trans hk5))
          clear hm5 hb5 hk5
          go_wp2_with fail
          go_meet
          exact ⟨⟨_, rfl⟩, HPC⟩
        · go_wp2_with fail
          refine (trim_any w.heap.size bS F cc none none w3 HM3.out hbS (by omega) (by omega)).mono ?_
          rintro e5 w5 ⟨rfl, hm5, hb5, hk5⟩
          have HPC : Hid (PC w wr w5 bS (es.map ssOf) k) := Lib.hid (pc_mk (HRun.out.trans (by simp [stepS, ssOf])) hm5 (HB3.out.trans hb5) (HK3.out.trans hk5))
          clear hm5 hb5 hk5
          go_wp2_with fail
          go_meet
          exact ⟨⟨_, rfl⟩, HPC⟩
        · go_wp2_with fail
          refine (lookUp_any w.heap.size bS F cc none none nm w3 HM3.out (by omega) HSE.out.2.1).mono ?_
          rintro e5 w5 ⟨⟨v, rfl, hv⟩, rfl⟩
          have HPC : Hid (PC w wr w3 bS (es.map ssOf) k) := Lib.hid (pc_mk (X := (F, cc)) (HRun.out.trans (by simp [stepS, ssOf])) HM3.out HB3.out HK3.out)
          rcases hv with rfl | ⟨t, g, i, rfl, -, -, hi, hbt, hbg⟩
          · go_wp2_with fail
            go_meet
            exact ⟨⟨_, rfl⟩, HPC⟩
          · have r2 := hbt.cell 2
            have r0 := hbg.cell 0
            simp only [List.getElem?_toArray, List.getElem?_cons_zero, List.getElem?_cons_succ] at r2 r0
            have kb := run_back i hi
            have ka := run_toNum
            clear hbt hbg
            generalize floatOfInt .f64 (i : Int) = x at *
            go_wp2_with fail
            go_meet
            exact ⟨⟨_, rfl⟩, HPC⟩
      case rest =>
        obtain ⟨⟨a, rfl⟩, HPC⟩ := hcut
        obtain ⟨x1, x2, hSI, hBc, hKc⟩ := HPC.out
        have hM := HM.out.keptT hKc
        have HMd := Lib.hid hM.drew
        have HMc := Lib.hid hM
        have HSIc := Lib.hid hSI
        have HBc := Lib.hid (HB0.out.trans hBc)
        obtain ⟨v, ps, lim, hBk, hO, -⟩ := hSI
        have hf := own_form hO
        obtain ⟨Av, cv, rfl⟩ := hf
        have hbl : bS < wc.heap.size := hBk.lt
        have HBk := Lib.hid hBk
        have HRun2 := Lib.hid (runS_bd (es.map ssOf) (k + 1))
        clear HP HM HSI HX HBX q0 hBc hKc hM hBk hO HPC HM3 HB3 HK3 HBX3
        have p2 := HBk.out.cell 2
        have p3 := HBk.out.cell 3
        simp only [List.getElem?_toArray, List.getElem?_cons_zero, List.getElem?_cons_succ] at p2 p3
        generalize hsk : runS (List.take (k + 1) (es.map ssOf)) = sk2 at *
        obtain ⟨F2, cc2⟩ := sk2
        have HSK := Lib.hid hsk
        clear hsk
        simp only at p2 p3
        go_wp2_with fail
        go_region_held3 (fun w' => w'.cell? ⟨bS, 2, none⟩ = some (.slice Av F2.length cv) ∧ w'.cell? ⟨bS, 3, none⟩ = some (.int .i64 cc2))
          ((refine keepI2 HBk.out ?_; repeat (first | with_reducible exact KeptI.refl _ | with_reducible exact hC.keep | with_reducible exact hB1.keep | with_reducible exact hA.keep | with_reducible apply KeptI.drew | with_reducible apply KeptI.alloc)))
          (first
            | (refine' M3.step (w0 := wc) (base := w.heap.size) (v0 := u2) (n0 := k) (l0 := l0) (v1 := u3) (n1 := k) (l1 := (lensV (es.map ssOf) k)) (v2 := u4) (n2 := k) (l2 := (callsV (es.map ssOf) k)) rfl (.tmp 64) (.tmp 66) rfl rfl _ (.int .i64 a) rfl ?hM ?hm (by omega) rfl ?_; (case hM => repeat (first | with_reducible exact HMc.out | with_reducible apply M3.drew | with_reducible apply M3.build)); (case hm => simp); all_goals skip; intro g0 cap0 wA hA)
            | (refine' M3.step (w0 := wc) (base := w.heap.size) (v0 := u3) (n0 := k) (l0 := (lensV (es.map ssOf) k)) (v1 := u4) (n1 := k) (l1 := (callsV (es.map ssOf) k)) (v2 := (.slice (some ⟨g0, 0, none⟩) (k + 1) cap0)) (n2 := (k + 1)) (l2 := (l0 ++ [.int .i64 a])) rfl (.tmp 68) (.tmp 72) rfl rfl _ (.int .i64 (F2.length : Int)) rfl ?hM ?hm (by omega) rfl ?_; (case hM => repeat (first | with_reducible exact hA.rot | with_reducible apply M3.drew | with_reducible apply M3.build)); (case hm => simp); all_goals skip; intro g1 cap1 wB hB1)
            | (refine' M3.step (w0 := wc) (base := w.heap.size) (v0 := u4) (n0 := k) (l0 := (callsV (es.map ssOf) k)) (v1 := (.slice (some ⟨g0, 0, none⟩) (k + 1) cap0)) (n1 := (k + 1)) (l1 := (l0 ++ [.int .i64 a])) (v2 := (.slice (some ⟨g1, 0, none⟩) (k + 1) cap1)) (n2 := (k + 1)) (l2 := (lensV (es.map ssOf) k ++ [.int .i64 (F2.length : Int)])) rfl (.tmp 74) (.tmp 77) rfl rfl _ (.int .i64 cc2) rfl ?hM ?hm (by omega) rfl ?_; (case hM => repeat (first | with_reducible exact hB1.rot | with_reducible apply M3.drew | with_reducible apply M3.build)); (case hm => simp); all_goals skip; intro g2 cap2 wC hC))
        all_goals
          have HN := Lib.hid (pi_next HSK.out HSIc.out hC.rot HBc.out)
          clear hA hB1 hC
          go_wp2_with fail
          go_roundw
          case rel => exact ⟨k + 1, by omega, by go_num, HN⟩
          case measure => simp [intOf]; omega
    · obtain rfl : k = n := by omega
      obtain ⟨A0, A1, A2, c0, c1, c2, ⟨rfl, rfl, rfl⟩, r1, r2, hb⟩ := pi_end HP.out
      have HR := Lib.hid (And.intro r1 (And.intro r2 hb))
      clear r1 r2 hb
      go_wp2_with fail
      go_ret3
      exact ⟨⟨A0, A1, A2, c0, c1, c2, rfl, HR.out.1, HR.out.2.1⟩, HR.out.2.2⟩
end Go.Proofs.Ytkbjcpeogecbgaa
