/-
  The walk of FnNumsAdded: it answers true.
-/
import Derived.Test.YthinfliplpjdjaaNumsLaw
import Derived.Deep.QuietTactic
import Derived.BigQuiet
namespace Go.Proofs.Ythinfliplpjdjaa
open Go.RowKit Ieee

theorem below_drewN {B : Nat} {a w : World} (h : Below B a w) (n : Nat) : Below B a (w.drewN n) := ⟨h.os, h.tape, h.output, h.size, h.block⟩

set_option maxRecDepth 100000 in
set_option maxHeartbeats 800000 in
theorem same7_any (A1 A2 : Option Addr) (n c1 c2 : Nat) (xs : List Nat) (B : Nat) (w : World) (h1 : Flts w B A1 n xs) (h2 : Flts w B A2 n xs) (hB : B ≤ w.heap.size) (hn : n ≤ 1000) (hf : xs.all finB = true) :
    Calls Try.prog 15 #[.slice A1 n c1, .slice A2 n c2] w fun e w' => e = .returned (.bool true) ∧ Below w.heap.size w w' := by
  have H1 := Lib.hid h1
  have H2 := Lib.hid h2
  have HF := Lib.hid hf
  clear h1 h2 hf
  go_enter Try.func15, Try.ntmps15
  go_wp2
  go_loopw [5] (fun t wr => ∃ j : Nat, j ≤ n ∧ t = .int .i64 j ∧ Below w.heap.size w wr) (fun t _ => n - (intOf t).toNat)
  case atStart => exact ⟨0, Nat.zero_le _, rfl, Below.refl _ _⟩
  case round =>
    obtain ⟨j, hj, rfl, hbel⟩ := hrel
    have HB := Lib.hid hbel
    clear hbel
    by_cases hlt : j < n
    · obtain ⟨ad1, rfl, hb1, hc1⟩ := H1.out.at_ hlt
      obtain ⟨ad2, rfl, hb2, hc2⟩ := H2.out.at_ hlt
      have d1 : wr.cell? (ad1.add j) = some (.float .f64 (xs.getD j 0)) := (HB.out.cell (p := ad1.add j) (by rw [block_of_add]; omega)).trans hc1
      have d2 : wr.cell? (ad2.add j) = some (.float .f64 (xs.getD j 0)) := (HB.out.cell (p := ad2.add j) (by rw [block_of_add]; omega)).trans hc2
      have hfin : finB (xs.getD j 0) = true := by
        have hl : j < xs.length := by rw [H1.out.len]; exact hlt
        have := List.all_eq_true.1 HF.out xs[j] (List.getElem_mem hl)
        simpa [hl] using this
      generalize xs.getD j 0 = s at d1 d2 hfin
      have t1 : (FloatKind.f64.format.order s s != some .eq) = false := by
        show (!(double.order s s == some .eq)) = false
        rw [nan_no (.inl (finB_fin hfin))]; rfl
      clear hc1 hc2 hfin
      have i0 : (0 : Int) ≤ (j : Int) := by omega
      have i1 : (j : Int) < (n : Int) := by omega
      go_wp2
      go_quiet (fail)
      go_wp2
      go_roundw
      case rel => exact ⟨j + 1, by omega, by go_num, by first | exact HB.out | exact below_drewN HB.out _⟩
      case measure => simp [intOf]; omega
    · obtain rfl : j = n := by omega
      go_wp2
      go_ret
      exact ⟨rfl, HB.out⟩

/-- A slice value of floats, with what it reads as. -/
structure SL where
  A : Option Addr
  n : Nat
  c : Nat
  xs : List Nat
def fin7 (xs : List Nat) : Bool := xs.all finB && decide (xs.length ≤ 200)
def SLok (w : World) (B : Nat) (g : Nat) (L : List SL) : Prop :=
  ∀ (j : Nat) (e : SL), L[j]? = some e → w.cell? ⟨g, j, none⟩ = some (.slice e.A e.n e.c) ∧ Flts w B e.A e.n e.xs ∧ e.n ≤ 2147483647 ∧ ∀ x ∈ e.xs, x < 18446744073709551616

theorem ret_bool' {a b : Bool} (h : a = b) : Ending.returned (.bool a) = .returned (.bool b) := by rw [h]
theorem all7_at {L : List SL} {j : Nat} {e : SL} (hj : L[j]? = some e) (h : fin7 e.xs = false) : (L.all fun e => fin7 e.xs) = false := by
  rw [List.all_eq_false]
  exact ⟨e, List.mem_of_getElem? hj, by simp [h]⟩
theorem all7_of {L : List SL} (h : ∀ (j : Nat) (e : SL), L[j]? = some e → fin7 e.xs = true) : (L.all fun e => fin7 e.xs) = true := by
  rw [List.all_eq_true]
  intro e he
  obtain ⟨j, hj, rfl⟩ := List.getElem_of_mem he
  exact h j _ (List.getElem?_eq_getElem hj)
theorem fin7_at {xs : List Nat} {k : Nat} (hk : k < xs.length) (h : finB (xs.getD k 0) = false) : fin7 xs = false := by
  have : xs.all finB = false := by
    rw [List.all_eq_false]
    exact ⟨xs[k], List.getElem_mem _, by simp [hk] at h; simp [h]⟩
  simp [fin7, this]
theorem fin7_long {xs : List Nat} (h : 200 < xs.length) : fin7 xs = false := by
  have : decide (xs.length ≤ 200) = false := decide_eq_false (by omega)
  simp [fin7, this]
theorem fin7_of {xs : List Nat} (h : ∀ j, j < xs.length → finB (xs.getD j 0) = true) (hl : xs.length ≤ 200) : fin7 xs = true := by
  have : xs.all finB = true := by
    rw [List.all_eq_true]
    intro x hx
    obtain ⟨j, hj, rfl⟩ := List.getElem_of_mem hx
    have := h j hj
    simpa [hj] using this
  simp [fin7, this, hl]

set_option maxRecDepth 100000 in
set_option maxHeartbeats 1600000 in
theorem finite7_any (g m c : Nat) (L : List SL) (B : Nat) (w : World) (h : SLok w B g L) (hm : L.length = m) (hm2 : m ≤ 10) :
    Calls Try.prog 13 #[.slice (some ⟨g, 0, none⟩) m c] w fun e w' => e = .returned (.bool (L.all fun e => fin7 e.xs)) ∧ w = w' := by
  have HH := Lib.hid h
  have HM := Lib.hid hm
  clear h hm
  go_enter Try.func13, Try.ntmps13
  go_wp2
  go_loop [3] (fun i => ∃ j : Nat, j ≤ m ∧ i = .int .i64 j ∧ ∀ l e, l < j → L[l]? = some e → fin7 e.xs = true) (fun i => m - (intOf i).toNat)
  case atStart => exact ⟨0, Nat.zero_le _, rfl, fun l e h => by omega⟩
  case round =>
    obtain ⟨j, hj, rfl, hall⟩ := hrel
    have HA := Lib.hid hall
    clear hall
    by_cases hlt : j < m
    · obtain ⟨e, hje⟩ : ∃ e, L[j]? = some e := ⟨_, List.getElem?_eq_getElem (by rw [HM.out]; exact hlt)⟩
      obtain ⟨hc, hfl, hen, hex⟩ := HH.out j e hje
      obtain ⟨A, n, cc, xs⟩ := e
      have hc' : w.cell? ⟨g, j, none⟩ = some (.slice A n cc) := hc
      have hen' : n ≤ 2147483647 := hen
      have HJ := Lib.hid hje
      have HF := Lib.hid hfl
      have HX := Lib.hid hex
      clear hje hfl hex hen hc
      go_wp2
      go_loop [4] (fun i => ∃ k : Nat, k ≤ n ∧ i = .int .i64 k ∧ (∀ l, l < k → finB (xs.getD l 0) = true)) (fun i => n - (intOf i).toNat)
      case atStart => exact ⟨0, Nat.zero_le _, rfl, fun l h => by omega⟩
      case round =>
        obtain ⟨k, hk, rfl, hin⟩ := hrel
        have HI := Lib.hid hin
        clear hin
        by_cases hkl : k < n
        · obtain ⟨ad, rfl, hb, hcx⟩ := HF.out.at_ hkl
          have hl : k < xs.length := by rw [HF.out.len]; exact hkl
          have hsz : xs.getD k 0 < 18446744073709551616 := by
            have := HX.out (xs[k]) (List.getElem_mem hl)
            simpa [hl] using this
          have HL := Lib.hid hl
          obtain ⟨s, hs⟩ : ∃ s, s = xs.getD k 0 := ⟨_, rfl⟩
          rw [← hs] at hcx hsz
          have HE := Lib.hid hs
          clear hs hl
          cases hfs : finB s
          · have HFS := Lib.hid hfs
            go_wp2_with (go_at_call 37; refine (finite_any s hsz _).mono ?_; rintro e w' ⟨rfl, rfl⟩)
            go_ret
            exact ⟨ret_bool' (all7_at HJ.out (fin7_at HL.out (by rw [← HE.out]; exact HFS.out))).symm, rfl⟩
          · have HFS := Lib.hid hfs
            go_wp2_with (go_at_call 37; refine (finite_any s hsz _).mono ?_; rintro e w' ⟨rfl, rfl⟩)
            go_round
            case rel => exact ⟨k + 1, by omega, by go_num, fun l hl => by
              rcases Nat.lt_or_ge l k with h1 | h1
              · exact HI.out l h1
              · obtain rfl : l = k := by omega
                rw [← HE.out]; exact HFS.out⟩
            case measure => simp [intOf]; omega
        · obtain rfl : k = n := by omega
          by_cases hbig : 200 < k
          · go_wp2
            go_ret
            exact ⟨ret_bool' (all7_at HJ.out (fin7_long (by rw [HF.out.len]; exact hbig))).symm, rfl⟩
          · go_wp2
            go_round
            case rel => exact ⟨j + 1, by omega, by go_num, fun l e hl he => by
              rcases Nat.lt_or_ge l j with h1 | h1
              · exact HA.out l e h1 he
              · obtain rfl : l = j := by omega
                have h2 := HJ.out
                rw [he] at h2
                injection h2 with h2
                subst h2
                exact fin7_of (by rw [HF.out.len]; exact HI.out) (by rw [HF.out.len]; omega)⟩
            case measure => simp [intOf]; omega
    · obtain rfl : j = m := by omega
      go_wp2
      go_ret
      exact ⟨ret_bool' (all7_of (fun l e he => HA.out l e (by rw [← HM.out]; exact (List.getElem?_eq_some_iff.1 he).1) he)).symm, rfl⟩

theorem fin7_facts {xs : List Nat} (h : fin7 xs = true) : xs.all finB = true ∧ xs.length ≤ 200 := by
  simp only [fin7, Bool.and_eq_true, decide_eq_true_eq] at h; exact h

set_option maxRecDepth 100000 in
set_option maxHeartbeats 1600000 in
theorem numsAdded_walk (A1 A2 : Option Addr) (n m c1 c2 : Nat) (xs ys : List Nat) (w : World) (h1 : Flts w w.heap.size A1 n xs) (h2 : Flts w w.heap.size A2 m ys) (hn : n ≤ 9223372036854775807) (hm : m ≤ 9223372036854775807)
    (hx : ∀ x ∈ xs, x < 18446744073709551616) (hy : ∀ x ∈ ys, x < 18446744073709551616) :
    Calls Try.prog 4 #[.slice A1 n c1, .slice A2 m c2] w fun e w' => e = .returned (.bool true) ∧ Below w.heap.size w w' := by
  have H1 := Lib.hid h1
  have H2 := Lib.hid h2
  have HX := Lib.hid hx
  have HY := Lib.hid hy
  clear h1 h2 hx hy
  by_cases hbig : 2147483647 < n
  · have d1 : decide ((2147483647 : Int) < (n : Int)) = true := by simp; omega
    go_enter Try.func4, Try.ntmps4
    go_wp2_with fail
    go_ret
    exact ⟨rfl, Below.refl _ _⟩
  by_cases hbig2 : 2147483647 < m
  · have d1 : decide ((2147483647 : Int) < (n : Int)) = false := by simp; omega
    have d2 : decide ((2147483647 : Int) < (m : Int)) = true := by simp; omega
    go_enter Try.func4, Try.ntmps4
    go_wp2_with fail
    go_ret
    exact ⟨rfl, Below.refl _ _⟩
  have d1 : decide ((2147483647 : Int) < (n : Int)) = false := by simp; omega
  have d2 : decide ((2147483647 : Int) < (m : Int)) = false := by simp; omega
  have hb0 : Below w.heap.size w (w.alloc (.cells #[.slice A1 n c1, .slice A2 m c2] 30)) := (Below.refl _ _).alloc (Nat.le_refl _) _
  have hsl : SLok (w.alloc (.cells #[.slice A1 n c1, .slice A2 m c2] 30)) w.heap.size w.heap.size [⟨A1, n, c1, xs⟩, ⟨A2, m, c2, ys⟩] := by
    intro j e he
    have hblk := Blk.new w 30 #[.slice A1 n c1, .slice A2 m c2]
    rcases j with _ | j
    · simp at he; subst he
      exact ⟨hblk.cell 0, H1.out.below hb0, (by show n ≤ 2147483647; omega), HX.out⟩
    · rcases j with _ | j
      · simp at he; subst he
        exact ⟨hblk.cell 1, H2.out.below hb0, (by show m ≤ 2147483647; omega), HY.out⟩
      · simp at he
  have HSL := Lib.hid hsl
  have HB0 := Lib.hid hb0
  clear hsl hb0
  cases hfin : (fin7 xs && fin7 ys)
  · have hall : ([⟨A1, n, c1, xs⟩, ⟨A2, m, c2, ys⟩] : List SL).all (fun e => fin7 e.xs) = false := by simpa using hfin
    have HALL := Lib.hid hall
    clear hall hfin
    go_enter Try.func4, Try.ntmps4
    go_wp2_with fail
    refine (finite7_any w.heap.size 2 _ _ w.heap.size _ HSL.out rfl (by omega)).mono ?_
    rw [HALL.out]
    rintro e w' ⟨rfl, rfl⟩
    go_wp2_with fail
    go_ret
    exact ⟨rfl, HB0.out⟩
  · have hall : ([⟨A1, n, c1, xs⟩, ⟨A2, m, c2, ys⟩] : List SL).all (fun e => fin7 e.xs) = true := by simpa using hfin
    have HALL := Lib.hid hall
    simp only [Bool.and_eq_true] at hfin
    obtain ⟨f1, f2⟩ := hfin
    obtain ⟨f1, l1⟩ := fin7_facts f1
    obtain ⟨f2, l2⟩ := fin7_facts f2
    have hn2 : n ≤ 200 := by rw [← H1.out.len]; exact l1
    have hm2 : m ≤ 200 := by rw [← H2.out.len]; exact l2
    have hboth : (xs ++ ys).all finB = true := by rw [List.all_append, f1, f2]; rfl
    have HBOTH := Lib.hid hboth
    have hlen : (xs ++ ys).length = n + m := by rw [List.length_append, H1.out.len, H2.out.len]
    have HLEN := Lib.hid hlen
    clear hall f1 f2 l1 l2 hboth hlen
    go_enter Try.func4, Try.ntmps4
    go_wp2_with fail
    refine (finite7_any w.heap.size 2 _ _ w.heap.size _ HSL.out rfl (by omega)).mono ?_
    rw [HALL.out]
    rintro e w' ⟨rfl, rfl⟩
    generalize w.alloc (.cells #[.slice A1 n c1, .slice A2 m c2] 30) = w1 at *
    go_wp2_with fail
    have g1 : Flts w1 w1.heap.size A1 n xs := (H1.out.below HB0.out).more HB0.out.size
    have g2 : Flts w1 w1.heap.size A2 m ys := (H2.out.below HB0.out).more HB0.out.size
    refine (numsAdded_any A1 A2 n m c1 c2 xs ys _ g1 g2 hn2 hm2).mono ?_
    clear g1 g2
    rintro e w2 ⟨v, rfl, a2, b2⟩
    have HA2 := Lib.hid a2
    have hB2 := HB0.out.trans (b2.mono HB0.out.size)
    have HB2 := Lib.hid hB2
    have HS2 := Lib.hid b2.size
    clear a2 b2 hB2
    go_wp2_with fail
    refine (joined_any A1 A2 n m c1 c2 xs ys w.heap.size _ (H1.out.below HB2.out) (H2.out.below HB2.out) HB2.out.size hn2 hm2).mono ?_
    rintro e w3 ⟨v3, rfl, a3, b3⟩
    have HA3 := Lib.hid a3
    have HB23 := Lib.hid b3
    have HB3 := Lib.hid (HB2.out.trans (b3.mono HB2.out.size))
    clear a3 b3
    go_wp2_with fail
    obtain ⟨A4, c4, rfl⟩ := own_shape (n := n + m) HA2.out HLEN.out
    obtain ⟨A5, c5, rfl⟩ := own_shape (n := n + m) HA3.out HLEN.out
    have k2 := HA2.out
    have k3 := HA3.out
    rw [HLEN.out] at k2 k3
    have r2 := ((Reads.of_own k2).below HB23.out).more HB23.out.size
    have r3 := Reads.of_own k3
    clear k2 k3
    refine (same7_any A4 A5 (n + m) c4 c5 (xs ++ ys) w3.heap.size _ r2 r3 (Nat.le_refl _) (by omega) HBOTH.out).mono ?_
    clear r2 r3
    rintro e w4 ⟨rfl, b4⟩
    have HB4 := Lib.hid (HB3.out.trans (b4.mono HB3.out.size))
    clear b4
    go_wp2_with fail
    go_ret
    exact ⟨rfl, HB4.out⟩
end Go.Proofs.Ythinfliplpjdjaa
