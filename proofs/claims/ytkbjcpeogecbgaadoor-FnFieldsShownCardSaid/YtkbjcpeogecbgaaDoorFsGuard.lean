/-
  The guards over steps that make an object: zzFits11, zzFits12, StepsOK, fewSteps: what they say if they answer true.
-/
import Derived.Test.YtkbjcpeogecbgaaDoorFs
import Derived.Test.YtkbjcpeogecbgaaDoorLaysF
import Derived.Test.YtkbjcpeogecbgaaDoorLater
import Derived.Shelf.Unicode.ValidAny
import Derived.Deep.DeepCutAuto
namespace Go.Proofs.YtkbjcpeogecbgaaDoor
open Go.RowKit Go.Shelf

def GdPost (Q : Prop) (w : World) (e : Ending) (w' : World) : Prop := (∃ b, e = .returned (.bool b) ∧ (b = true → Q)) ∧ Below w.heap.size w w'
set_option maxRecDepth 100000 in
theorem zzFits12_any (e : FE) (B : Nat) (w : World) (h : Strs w B e.A e.n e.ns) (hB : B ≤ w.heap.size) (hn : e.n ≤ maxLen) (hn2 : e.n2 ≤ maxLen) (hm : e.rm.size ≤ maxLen) (hs : ∀ s ∈ e.ns, s.size ≤ maxLen) :
    Calls Tryd.prog 12 #[.agg #[.bool e.is, .string e.rm, .slice e.A e.n e.c, .slice e.A2 e.n2 e.c2]] w (GdPost True w) := by
  have HH := Lib.hid h
  have HS := Lib.hid hs
  have HN := Lib.hid hn
  unfold maxLen at hm hn2
  clear h hs hn
  obtain ⟨is, rm, A, n, c, ns, A2, n2, c2, hs⟩ := e
  simp only at HH HS HN hm hn2 ⊢
  have F := Lib.hid (fun w' (hb : Below w.heap.size w w') => zzFits5_any A n c ns B w' (Reads.below HH.out (hb.mono hB)) HN.out HS.out)
  by_cases hbig : 2147483647 < rm.size
  · go_enter Tryd.func12, Tryd.ntmps12
    go_wp2_with fail
    go_ret
    exact ⟨⟨_, rfl, fun _ => trivial⟩, (Below.refl _ _).alloc (Nat.le_refl _) _⟩
  · go_enter Tryd.func12, Tryd.ntmps12
    go_wp2_with fail
    refine (F.out _ ((Below.refl _ _).alloc (Nat.le_refl _) _)).mono ?_
    rintro e w1 ⟨rfl, rfl⟩
    cases hf : fits5 ns
    · go_wp2
      go_ret
      exact ⟨⟨_, rfl, fun _ => trivial⟩, (Below.refl _ _).alloc (Nat.le_refl _) _⟩
    · clear hf
      by_cases hbig2 : 2147483647 < n2
      · go_wp2
        go_ret
        exact ⟨⟨_, rfl, fun _ => trivial⟩, (Below.refl _ _).alloc (Nat.le_refl _) _⟩
      · go_wp2
        go_ret
        exact ⟨⟨_, rfl, fun _ => trivial⟩, (Below.refl _ _).alloc (Nat.le_refl _) _⟩

set_option maxRecDepth 100000 in
set_option maxHeartbeats 800000 in
theorem zzFits11_any (A : Option Addr) (n c : Nat) (es : List FE) (B : Nat) (w : World) (h : FSteps w B A n es) (hB : B ≤ w.heap.size) (hn : n ≤ maxLen) (hs : SoundF es) :
    Calls Tryd.prog 5 #[.slice A n c] w (GdPost True w) := by
  unfold maxLen at hn
  have HH := Lib.hid h
  have HS := Lib.hid hs
  clear h hs
  by_cases hbig : 2147483647 < n
  · go_enter Tryd.func5, Tryd.ntmps5
    go_wp2_with fail
    go_ret
    exact ⟨⟨_, rfl, fun _ => trivial⟩, Below.refl _ _⟩
  · go_enter Tryd.func5, Tryd.ntmps5
    go_wp2_with fail
    go_loopw [10] (fun i wr => ∃ k : Nat, k ≤ n ∧ i = .int .i64 k ∧ Hid (Below w.heap.size w wr)) (fun i _ => n - (intOf i).toNat)
    case atStart => exact ⟨0, Nat.zero_le _, rfl, Lib.hid (Below.refl _ _)⟩
    case round =>
      obtain ⟨k, hk, rfl, HB⟩ := hrel
      by_cases hlt : k < n
      · obtain ⟨b, o, e, rfl, hb, hek, hstr, hints, c0, c1, c2, c3⟩ := (HH.out.below HB.out hB).at_ hlt
        have HE := Lib.hid hek
        have HT := Lib.hid hstr
        have hws : w.heap.size ≤ wr.heap.size := HB.out.size
        clear hek hstr hints
        go_wp2_with fail
        have hso := HS.out e (List.mem_of_getElem? HE.out)
        refine (zzFits12_any e B _ (Reads.alloc HT.out (by omega) _) (by simp; omega) hso.1 hso.2.1 hso.2.2.1 hso.2.2.2).mono ?_
        clear hso
        rintro e1 w1 ⟨⟨bb, rfl, -⟩, hb1⟩
        have HB1 := Lib.hid ((HB.out.alloc hws _).trans (hb1.mono (by simp; omega)))
        clear hb1
        cases bb
        · go_wp2_with fail
          go_ret
          exact ⟨⟨_, rfl, fun _ => trivial⟩, HB1.out⟩
        · go_wp2_with fail
          go_roundw
          case rel => exact ⟨k + 1, by omega, by go_num, HB1⟩
          case measure => simp [intOf]; omega
      · obtain rfl : k = n := by omega
        go_wp2_with fail
        go_ret
        exact ⟨⟨_, rfl, fun _ => trivial⟩, HB.out⟩

theorem valid_any (s : ByteArray) (w : World) (hs : s.size ≤ 9223372036854775807) (hT : Lib.Utf8Tabs 0 1 w) :
    Calls Tryd.prog 23 #[.string s] w fun e w' => e = .returned (.bool (Lib.validD s.data.toList)) ∧ Below w.heap.size w w' :=
  Any.utf8_ValidString laysLaysn196 s w hs hT
def G4 (bad : Bool) (n1 n2 : Nat) (is : Bool) : Prop := bad = false → n1 = n2 ∧ (is = true → n1 = 0)
def G10 (bad : Bool) (h : Int) : Prop := bad = false → h = 0 ∨ h = 1 ∨ h = 2
/-- What StepsOK tells of a step. -/
def OkT (e : FE) : Prop := e.n = e.n2 ∧ (∀ h ∈ e.hs, h = 0 ∨ h = 1 ∨ h = 2) ∧ (e.is = true → e.n = 0)

set_option maxRecDepth 100000 in
set_option maxHeartbeats 3200000 in
theorem stepsOK_any (A : Option Addr) (n c : Nat) (es : List FE) (B : Nat) (w : World) (h : FSteps w B A n es) (hB : B ≤ w.heap.size) (hn : n ≤ 1000) (hs : SoundF es) (h12 : ∀ e ∈ es, e.n ≤ 12) (hT : Lib.Utf8Tabs 0 1 w) :
    Calls Tryd.prog 13 #[.slice A n c] w (GdPost (∀ e ∈ es, OkT e) w) := by
  have HH := Lib.hid h
  have HL := Lib.hid h.1
  have HS := Lib.hid hs
  have H12 := Lib.hid h12
  have HT := Lib.hid hT
  clear h hs h12 hT
  go_enter Tryd.func13, Tryd.ntmps13
  go_wp2
  go_loopw [3] (fun t wr => ∃ k : Nat, k ≤ n ∧ t = .int .i64 k ∧ Hid (Below w.heap.size w wr) ∧ Hid (∀ i e, i < k → es[i]? = some e → OkT e)) (fun t _ => n - (intOf t).toNat)
  case atStart => exact ⟨0, Nat.zero_le _, rfl, Lib.hid (Below.refl _ _), Lib.hid (fun i e hi _ => by omega)⟩
  case round =>
    obtain ⟨k, hk, rfl, HB, HA⟩ := hrel
    have hws : w.heap.size ≤ wr.heap.size := HB.out.size
    by_cases hlt : k < n
    · obtain ⟨b, o, e, rfl, hb, hek, hstr, hints, c0, c1, c2, c3⟩ := (HH.out.below HB.out hB).at_ hlt
      have HE := Lib.hid hek
      have HST := Lib.hid hstr
      have HIN := Lib.hid hints
      have hmem := List.mem_of_getElem? hek
      have HSE := Lib.hid (HS.out e hmem)
      have hn12 := H12.out e hmem
      have HTr := Lib.hid (Utf8Tabs_below HT.out HB.out)
      clear hek hstr hints hmem
      obtain ⟨is, rm, A1, n1, c1', ns, A2, n2, c2', hs⟩ := e
      simp only at c0 c1 c2 c3 HST HIN HSE hn12
      have l0 := fun x : Later wr => Later.cell c0 x
      have l1 := fun x : Later wr => Later.cell c1 x
      have l2 := fun x : Later wr => Later.cell c2 x
      have l3 := fun x : Later wr => Later.cell c3 x
      have hrm : rm.size ≤ 9223372036854775807 := by have := HSE.out.2.2.1; unfold maxLen at this; omega
      go_upto_region 4 with fail
      go_cut [66] (fun s66 wx => ∃ bad : Bool, s66 = .bool bad ∧ G4 bad n1 n2 is ∧ Hid (Below wr.heap.size wr wx))
      case first =>
        by_cases hne : n1 = n2
        · subst hne
          have V := Lib.hid (fun x : Later wr => valid_any rm x.val hrm (Utf8Tabs_below HTr.out x.ok))
          generalize Lib.validD rm.data.toList = vd at V
          cases is
          · by_cases he : rm.toList = []
            · have e1 : (!rm.toList.isEmpty) = false := by rw [he]; rfl
              clear he
              refine wp_region_later (by kernel_rfl) (by kernel_rfl) ?_
              repeat (go_big_quiet_step ((go_at_call 23; exact later_call (V.out _))))
              refine wpQuiet_nil ?_
              rintro w' ⟨y, rfl⟩
              go_wp2_with fail
              go_meet
              exact ⟨!vd, rfl, (fun _ => ⟨rfl, fun h => by cases h⟩), Lib.hid y.ok⟩
            · have e1 : (!rm.toList.isEmpty) = true := by simpa using he
              clear he
              refine wp_region_later (by kernel_rfl) (by kernel_rfl) ?_
              repeat (go_big_quiet_step ((go_at_call 23; exact later_call (V.out _))))
              refine wpQuiet_nil ?_
              rintro w' ⟨y, rfl⟩
              go_wp2_with fail
              go_meet
              exact ⟨true, rfl, (fun h => by cases h), Lib.hid y.ok⟩
          · rcases Nat.eq_zero_or_pos n1 with rfl | hpos
            · refine wp_region_later (by kernel_rfl) (by kernel_rfl) ?_
              repeat (go_big_quiet_step ((go_at_call 23; exact later_call (V.out _))))
              refine wpQuiet_nil ?_
              rintro w' ⟨y, rfl⟩
              go_wp2_with fail
              go_meet
              exact ⟨!vd, rfl, (fun _ => ⟨rfl, fun _ => rfl⟩), Lib.hid y.ok⟩
            · have e1 : (0 : Int) < (n1 : Int) := by omega
              refine wp_region_later (by kernel_rfl) (by kernel_rfl) ?_
              repeat (go_big_quiet_step ((go_at_call 23; exact later_call (V.out _))))
              refine wpQuiet_nil ?_
              rintro w' ⟨y, rfl⟩
              go_wp2_with fail
              go_meet
              exact ⟨true, rfl, (fun h => by cases h), Lib.hid y.ok⟩
        · have e3 : ((n1 : Int) != (n2 : Int)) = true := by simp; omega
          have HNE := Lib.hid hne
          clear hne
          refine wp_region_later (by kernel_rfl) (by kernel_rfl) ?_
          repeat (go_big_quiet_step (fail))
          refine wpQuiet_nil ?_
          rintro w' ⟨y, rfl⟩
          go_wp2_with fail
          go_meet
          exact ⟨true, rfl, (fun h => by cases h), Lib.hid y.ok⟩
      case rest =>
        obtain ⟨bad, rfl, HBD, HBX⟩ := hcut
        cases bad
        · obtain ⟨rfl, his⟩ := HBD rfl
          have HIS := Lib.hid his
          have HB2 := Lib.hid (HB.out.trans (HBX.out.mono hws))
          have hws2 : w.heap.size ≤ wc.heap.size := HB2.out.size
          have lb0 : b < wr.heap.size := World.block_lt_of_cell? wr _ c0
          have lbr : b < wc.heap.size := Nat.lt_of_lt_of_le lb0 HBX.out.size
          have d2 := (HBX.out.cell (p := ⟨b, o + k * 4 + 2, none⟩) lb0).trans c2
          have d3 := (HBX.out.cell (p := ⟨b, o + k * 4 + 3, none⟩) lb0).trans c3
          have HST2 : Hid (Strs wc wc.heap.size A1 n1 ns) := Lib.hid (Reads.more (Reads.below (HST.out.more (by omega)) HBX.out) HBX.out.size)
          have HIN2 : Hid (Ints wc wc.heap.size A2 n1 hs) := Lib.hid (Reads.more (Reads.below (HIN.out.more (by omega)) HBX.out) HBX.out.size)
          have HT2 := Lib.hid (Utf8Tabs_below HT.out HB2.out)
          clear l0 l1 l2 l3 c0 c1 c2 c3 his HBD HST HIN lb0 HTr HBX hws
          obtain ⟨w2, hw2⟩ : ∃ w2, w2 = wc := ⟨_, rfl⟩
          subst hw2
          go_wp2_with fail
          go_loopw [4] (fun t wx => ∃ j : Nat, j ≤ n1 ∧ t = .int .i64 j ∧ Hid (Below w2.heap.size w2 wx) ∧ Hid (∀ i, i < j → hs.getD i 0 = 0 ∨ hs.getD i 0 = 1 ∨ hs.getD i 0 = 2)) (fun t _ => n1 - (intOf t).toNat)
          case atStart => exact ⟨0, Nat.zero_le _, rfl, Lib.hid (Below.refl _ _), Lib.hid (fun i hi => by omega)⟩
          case round =>
            obtain ⟨j, hj, rfl, HBj, HAj⟩ := hrel
            have hwsj : w2.heap.size ≤ wr.heap.size := HBj.out.size
            have d2' := (HBj.out.cell (p := ⟨b, o + k * 4 + 2, none⟩) lbr).trans d2
            have d3' := (HBj.out.cell (p := ⟨b, o + k * 4 + 3, none⟩) lbr).trans d3
            by_cases hjl : j < n1
            · obtain ⟨ad, rfl, hbk, hc0⟩ := HST2.out.at_ hjl
              have hc1 := (HBj.out.cell (p := ad.add j) (by rw [block_of_add]; omega)).trans hc0
              obtain ⟨ad2, rfl, hbk2, hc02⟩ := HIN2.out.at_ hjl
              have hc2 := (HBj.out.cell (p := ad2.add j) (by rw [block_of_add]; omega)).trans hc02
              have HAN : Hid (G10 false (hs.getD j 0) → ∀ i, i < j + 1 → hs.getD i 0 = 0 ∨ hs.getD i 0 = 1 ∨ hs.getD i 0 = 2) := Lib.hid (fun hg i hi => by
                rcases Nat.lt_or_ge i j with h1 | h1
                · exact HAj.out i h1
                · obtain rfl : i = j := by omega
                  exact hg rfl)
              have hsz : (ns.getD j ByteArray.empty).size ≤ 9223372036854775807 := by
                have hl : j < ns.length := by rw [Strs.len HST2.out]; exact hjl
                have := HSE.out.2.2.2 (ns[j]'hl) (List.getElem_mem _)
                simp [hl]
                unfold maxLen at this
                omega
              have HTj := Lib.hid (Utf8Tabs_below HT2.out HBj.out)
              clear hc0 hc02
              generalize hs.getD j 0 = hd at *
              generalize ns.getD j ByteArray.empty = nm at *
              go_upto_region 10 with fail
              go_cut [106] (fun s106 wx => ∃ bad : Bool, s106 = .bool bad ∧ G10 bad hd ∧ Hid (Below wr.heap.size wr wx))
              case first =>
                by_cases hh : hd = 0 ∨ hd = 1 ∨ hd = 2
                · have V := Lib.hid (valid_any nm wr hsz HTj.out)
                  generalize Lib.validD nm.data.toList = vd at V
                  rcases hh with rfl | rfl | rfl
                  all_goals
                    go_wp2_with (go_at_call 23; refine V.out.mono ?_; rintro e9 w9 ⟨rfl, hb9⟩)
                    have HB9 := Lib.hid hb9
                    clear hb9
                    go_wp2_with fail
                    go_meet
                    exact ⟨!vd, rfl, (fun _ => by omega), HB9⟩
                · have t0 : (hd != 0) = true := by simp; omega
                  have t1 : (hd != 1) = true := by simp; omega
                  have t2 : (hd != 2) = true := by simp; omega
                  clear hh
                  go_wp2_with fail
                  go_meet
                  exact ⟨true, rfl, (fun h => by cases h), Lib.hid (Below.refl _ _)⟩
              case rest =>
                obtain ⟨bad, rfl, HBD2, HBX2⟩ := hcut
                have HB3 := Lib.hid (HBj.out.trans (HBX2.out.mono hwsj))
                have hws3 : w2.heap.size ≤ wc.heap.size := HB3.out.size
                cases bad
                · have HAN2 := Lib.hid (HAN.out HBD2)
                  clear HBD2 HAN d2' d3' hc1 hc2 HBX2
                  obtain ⟨w3, hw3⟩ : ∃ w3, w3 = wc := ⟨_, rfl⟩
                  subst hw3
                  go_wp2_with fail
                  go_loopw [6] (fun t wx => ∃ i : Nat, i ≤ j ∧ t = .int .i64 i ∧ Hid (Below w2.heap.size w2 wx)) (fun t _ => j - (intOf t).toNat)
                  case atStart => exact ⟨0, Nat.zero_le _, rfl, HB3⟩
                  case round =>
                    obtain ⟨i, hi, rfl, HBi⟩ := hrel
                    by_cases hil : i < j
                    · obtain ⟨ad', hA', hbk', hci⟩ := HST2.out.at_ (show i < n1 by omega)
                      cases hA'
                      obtain ⟨ad', hA', -, hcj⟩ := HST2.out.at_ hjl
                      cases hA'
                      have q1 := (HBi.out.cell (p := ad.add i) (by rw [block_of_add]; omega)).trans hci
                      have q2 := (HBi.out.cell (p := ad.add j) (by rw [block_of_add]; omega)).trans hcj
                      have q3 := (HBi.out.cell (p := ⟨b, o + k * 4 + 2, none⟩) lbr).trans d2
                      clear hci hcj
                      generalize ns.getD i ByteArray.empty = na at *
                      generalize ns.getD j ByteArray.empty = nb at *
                      have i0 : (0 : Int) ≤ (i : Int) := Int.natCast_nonneg _
                      have i1 : (i : Int) < (n1 : Int) := by omega
                      have i2 : (j : Int) < (n1 : Int) := by omega
                      have i3 : (0 : Int) ≤ (j : Int) := Int.natCast_nonneg _
                      have i4 : (0 : Int) ≤ (k : Int) := Int.natCast_nonneg _
                      have i5 : (k : Int) < (n : Int) := by omega
                      go_wp2_with fail
                      go_quiet ((fail))
                      go_wp2_with fail
                      · go_ret
                        exact ⟨⟨false, rfl, fun h => by cases h⟩, below_drewNv (HB2.out.trans (HBi.out.mono hws2)) _⟩
                      · go_roundw
                        case rel => exact ⟨i + 1, by omega, by go_num, Lib.hid (below_drewNv HBi.out _)⟩
                        case measure => simp [intOf]; omega
                    · obtain rfl : i = j := by omega
                      go_wp2_with fail
                      go_roundw
                      case rel => exact ⟨i + 1, by omega, by go_num, HBi, HAN2⟩
                      case measure => simp [intOf]; omega
                · go_wp2_with fail
                  go_ret
                  exact ⟨⟨false, rfl, fun h => by cases h⟩, HB2.out.trans (HB3.out.mono hws2)⟩
            · obtain rfl : j = n1 := by omega
              have HOK : Hid (OkT ⟨is, rm, A1, j, c1', ns, A2, j, c2', hs⟩) := Lib.hid ⟨rfl, fun h hh => by
                obtain ⟨i, hi, rfl⟩ := List.getElem_of_mem hh
                have := HAj.out i (by rw [← Ints.len HIN2.out]; exact hi)
                simpa [hi] using this, HIS.out⟩
              have HB4 := Lib.hid (HB2.out.trans (HBj.out.mono hws2))
              clear HBj HAj
              go_wp2_with fail
              go_roundw
              case rel => exact ⟨k + 1, by omega, by go_num, HB4, Lib.hid (fun i e hi he => by
                rcases Nat.lt_or_ge i k with h1 | h1
                · exact HA.out i e h1 he
                · obtain rfl : i = k := by omega
                  have := HE.out.symm.trans he
                  cases this
                  exact HOK.out)⟩
              case measure => simp [intOf]; omega
        · go_wp2_with fail
          go_ret
          exact ⟨⟨false, rfl, fun h => by cases h⟩, HB.out.trans (HBX.out.mono hws)⟩
    · obtain rfl : k = n := by omega
      go_wp2_with fail
      go_ret
      refine ⟨⟨_, rfl, fun _ e he => ?_⟩, HB.out⟩
      obtain ⟨j, hj, rfl⟩ := List.getElem_of_mem he
      exact HA.out j _ (by rw [← HL.out]; exact hj) (List.getElem?_eq_getElem hj)

set_option maxRecDepth 100000 in
set_option maxHeartbeats 1600000 in
theorem fewSteps_any (A : Option Addr) (n c : Nat) (es : List FE) (B : Nat) (w : World) (h : FSteps w B A n es) (hB : B ≤ w.heap.size) (hn : n ≤ maxLen) (hs : SoundF es) (hT : Lib.Utf8Tabs 0 1 w) :
    Calls Tryd.prog 6 #[.slice A n c] w (GdPost (n ≤ 12 ∧ ∀ e ∈ es, OkF e) w) := by
  unfold maxLen at hn
  have HH := Lib.hid h
  have HL := Lib.hid h.1
  have HS := Lib.hid hs
  have HT := Lib.hid hT
  clear h hs hT
  go_enter Tryd.func6, Tryd.ntmps6
  go_wp2
  go_loop [3] (fun t => ∃ k : Nat, k ≤ n ∧ t = .int .i64 k ∧ Hid (∀ i e, i < k → es[i]? = some e → e.n ≤ 12)) (fun t => n - (intOf t).toNat)
  case atStart => exact ⟨0, Nat.zero_le _, rfl, Lib.hid (fun i e hi _ => by omega)⟩
  case round =>
    obtain ⟨k, hk, rfl, HA⟩ := hrel
    by_cases hlt : k < n
    · obtain ⟨b, o, e, rfl, hb, hek, hstr, hints, c0, c1, c2, c3⟩ := HH.out.at_ hlt
      have HE := Lib.hid hek
      clear hek hstr hints c0 c1 c3
      by_cases h12 : 12 < e.n
      · go_wp2_with fail
        go_ret
        exact ⟨⟨false, rfl, fun h => by cases h⟩, Below.refl _ _⟩
      · go_wp2_with fail
        go_round
        case rel => exact ⟨k + 1, by omega, by go_num, Lib.hid (fun i e' hi he => by
          rcases Nat.lt_or_ge i k with h1 | h1
          · exact HA.out i e' h1 he
          · obtain rfl : i = k := by omega
            have := HE.out.symm.trans he
            cases this
            omega)⟩
        case measure => simp [intOf]; omega
    · obtain rfl : k = n := by omega
      have h12 : ∀ e ∈ es, e.n ≤ 12 := fun e he => by
        obtain ⟨j, hj, rfl⟩ := List.getElem_of_mem he
        exact HA.out j _ (by rw [← HL.out]; exact hj) (List.getElem?_eq_getElem hj)
      have H12 := Lib.hid h12
      clear h12
      by_cases hk12 : k ≤ 12
      · have K := Lib.hid (stepsOK_any A k c es B w HH.out hB (by omega) HS.out H12.out HT.out)
        go_wp2_with fail
        refine K.out.mono ?_
        rintro e1 w1 ⟨⟨b1, rfl, hg1⟩, hb1⟩
        have HB1 := Lib.hid hb1
        have HG1 := Lib.hid hg1
        clear hb1 hg1
        cases b1
        · go_wp2_with fail
          go_ret
          exact ⟨⟨false, rfl, fun h => by cases h⟩, HB1.out⟩
        · go_wp2_with fail
          go_ret
          exact ⟨⟨true, rfl, fun _ => ⟨by omega, fun e he => by
            have h := HG1.out (by first | trivial | rfl) e he
            exact ⟨h.1, H12.out e he, h.2.1, h.2.2⟩⟩⟩, HB1.out⟩
      · go_wp2_with fail
        go_ret
        exact ⟨⟨false, rfl, fun h => by cases h⟩, Below.refl _ _⟩
end Go.Proofs.YtkbjcpeogecbgaaDoor
