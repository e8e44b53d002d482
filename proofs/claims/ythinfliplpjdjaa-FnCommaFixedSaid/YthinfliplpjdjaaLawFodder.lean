/-
  laws.fodder: it answers whether a list is fodder; it changes nothing that was there.
-/
import Derived.Test.YthinfliplpjdjaaFits7
import Derived.Test.YthinfliplpjdjaaLater
namespace Go.Proofs.Ythinfliplpjdjaa
open Go.RowKit

def CE.ok (e : CE) : Prop := elementOk e.k e.b e.i e.cs = true
/-- A list is fodder. -/
def fodderP (es : List CE) : Prop :=
  es.length ≤ 100 ∧ ∀ j e, es[j]? = some e → elementOk e.k e.b e.i e.cs = true ∧ ∀ e', 0 < j → es[j - 1]? = some e' → followsK e'.k e.k = true

def AnsP (p : Prop) (w : World) (e : Ending) (w' : World) : Prop := (∃ b : Bool, e = .returned (.bool b) ∧ (b = true ↔ p)) ∧ Below w.heap.size w w'

theorem element_is (r : Bool) (k b i : Int) (A : Option Addr) (n c : Nat) (cs : List ByteArray) (hr : elementOk k b i cs = r) (B : Nat) (w : World) (h : Strs w B A n cs) (hB : B ≤ w.heap.size) (hn : n ≤ maxLen) (hs : ∀ s ∈ cs, s.size ≤ maxLen) :
    Calls Try.prog 10 #[.agg #[.int .i64 k, .int .i64 b, .int .i64 i, .slice A n c]] w fun e w' => e = .returned (.bool r) ∧ Below w.heap.size w w' :=
  hr ▸ element_any k b i A n c cs B w h hB hn hs
theorem follows_is (r : Bool) (k1 b1 i1 k2 b2 i2 : Int) (A1 A2 : Option Addr) (n1 c1 n2 c2 : Nat) (hr : followsK k1 k2 = r) (w : World) :
    Calls Try.prog 23 #[.agg #[.int .i64 k1, .int .i64 b1, .int .i64 i1, .slice A1 n1 c1], .agg #[.int .i64 k2, .int .i64 b2, .int .i64 i2, .slice A2 n2 c2]] w fun e w' => e = .returned (.bool r) ∧ Below w.heap.size w w' :=
  hr ▸ follows_any k1 b1 i1 k2 b2 i2 _ _ A1 A2 n1 c1 n2 c2 rfl rfl w

set_option maxRecDepth 100000 in
set_option maxHeartbeats 1600000 in
theorem lawFodder_any (A : Option Addr) (n c : Nat) (es : List CE) (B : Nat) (w : World) (h : Els w B A n es) (hB : B ≤ w.heap.size) (hn : n ≤ maxLen) (hs : Sound es) :
    Calls Try.prog 18 #[.slice A n c] w (AnsP (fodderP es) w) := by
  unfold maxLen at hn
  have HH := Lib.hid h
  have HS := Lib.hid hs
  have hl := h.1
  clear h hs
  by_cases hbig : 100 < n
  · have HF := Lib.hid (show ¬ fodderP es from fun hp => by have := hp.1; omega)
    clear hl
    go_enter Try.func18, Try.ntmps18
    go_wp2_with fail
    go_ret
    exact ⟨⟨false, rfl, by simp [HF.out]⟩, Below.refl _ _⟩
  · have HL := Lib.hid hl
    clear hl
    go_enter Try.func18, Try.ntmps18
    go_wp2_with fail
    go_loopw [3] (fun i wr => ∃ k : Nat, k ≤ n ∧ i = .int .i64 k ∧ Below w.heap.size w wr ∧ (∀ j e, j < k → es[j]? = some e → elementOk e.k e.b e.i e.cs = true ∧ ∀ e', 0 < j → es[j - 1]? = some e' → followsK e'.k e.k = true)) (fun i _ => n - (intOf i).toNat)
    case atStart => exact ⟨0, Nat.zero_le _, rfl, Below.refl _ _, fun j e hj _ => by omega⟩
    case round =>
      obtain ⟨k, hk, rfl, hbel, hall⟩ := hrel
      have HA := Lib.hid hall
      have HB := Lib.hid hbel
      clear hall
      by_cases hlt : k < n
      · have hall2 := HH.out.below (hbel.mono hB)
        obtain ⟨b, o, e, rfl, hb, hek, hstr, c0, c1, c2, c3⟩ := hall2.at_ hlt
        have HE := Lib.hid hek
        have HT := Lib.hid hstr
        have HW := Lib.hid hall2
        have hws : w.heap.size ≤ wr.heap.size := hbel.size
        have hso := Lib.hid (HS.out e (List.mem_of_getElem? HE.out))
        have i0 : (0 : Int) ≤ (k : Int) := by omega
        have i1 : (k : Int) < (n : Int) := by omega
        clear hek hstr hbel hall2
        cases hE : elementOk e.k e.b e.i e.cs
        · have HE' := Lib.hid hE
          go_wp2_with fail
          have l0 := fun x : Later wr => Later.cell c0 x
          have l1 := fun x : Later wr => Later.cell c1 x
          have l2 := fun x : Later wr => Later.cell c2 x
          have l3 := fun x : Later wr => Later.cell c3 x
          refine wp_region_later (by kernel_rfl) (by kernel_rfl) ?_
          repeat (go_big_quiet_step ((go_at_call 10; exact later_call (element_is false e.k e.b e.i e.A e.n e.c e.cs HE'.out B _ (Strs.below HT.out (Below.mono (Later.ok _) (by omega))) (Nat.le_trans (by omega) (Later.size _)) hso.out.1 hso.out.2))))
          refine wpQuiet_nil ?_
          rintro w' ⟨y, rfl⟩
          go_wp2_with fail
          go_ret
          refine ⟨⟨false, rfl, ?_⟩, HB.out.trans (y.ok.mono hws)⟩
          have hno : ¬ fodderP es := fun hp => by
            have := (hp.2 k e HE.out).1
            rw [HE'.out] at this
            cases this
          simp [hno]
        · have HE' := Lib.hid hE
          rcases Nat.eq_zero_or_pos k with hk0 | hk0
          · subst hk0
            have l0 := fun x : Later wr => Later.cell c0 x
            have l1 := fun x : Later wr => Later.cell c1 x
            have l2 := fun x : Later wr => Later.cell c2 x
            have l3 := fun x : Later wr => Later.cell c3 x
            simp only [Nat.zero_mul, Nat.add_zero] at l0 l1 l2 l3
            go_wp2_with fail
            refine wp_region_later (by kernel_rfl) (by kernel_rfl) ?_
            repeat (go_big_quiet_step ((go_at_call 10; exact later_call (element_is true e.k e.b e.i e.A e.n e.c e.cs HE'.out B _ (Strs.below HT.out (Below.mono (Later.ok _) (by omega))) (Nat.le_trans (by omega) (Later.size _)) hso.out.1 hso.out.2))))
            refine wpQuiet_nil ?_
            rintro w' ⟨y, rfl⟩
            go_wp2_with fail
            go_roundw
            case rel => exact ⟨1, by omega, by go_num, HB.out.trans (y.ok.mono hws), fun j e' hj he' => by
              obtain rfl : j = 0 := by omega
              have := HE.out.symm.trans he'
              cases this
              exact ⟨HE'.out, fun _ h0 => by omega⟩⟩
            case measure => simp [intOf]; omega
          · obtain ⟨m, rfl⟩ : ∃ m, k = m + 1 := ⟨k - 1, by omega⟩
            obtain ⟨b', o', e', hA', hb', hek', hstr', d0, d1, d2, d3⟩ := HW.out.at_ (show m < n by omega)
            obtain ⟨rfl, rfl⟩ : b = b' ∧ o = o' := by simpa using hA'
            have HE2 := Lib.hid hek'
            have HT2 := Lib.hid hstr'
            clear hek' hstr' hA'
            have l0 := fun x : Later wr => Later.cell c0 x
            have l1 := fun x : Later wr => Later.cell c1 x
            have l2 := fun x : Later wr => Later.cell c2 x
            have l3 := fun x : Later wr => Later.cell c3 x
            have r0 := fun x : Later wr => Later.cell d0 x
            have r1 := fun x : Later wr => Later.cell d1 x
            have r2 := fun x : Later wr => Later.cell d2 x
            have r3 := fun x : Later wr => Later.cell d3 x
            have i2 : (m : Int) < (n : Int) := by omega
            have i3 : (0 : Int) ≤ (m : Int) := by omega
            cases hF : followsK e'.k e.k
            all_goals
              have HF := Lib.hid hF
              go_wp2_with fail
              refine wp_region_later (by kernel_rfl) (by kernel_rfl) ?_
              repeat (go_big_quiet_step (first | (go_at_call 10; exact later_call (element_is true e.k e.b e.i e.A e.n e.c e.cs HE'.out B _ (Strs.below HT.out (Below.mono (Later.ok _) (by omega))) (Nat.le_trans (by omega) (Later.size _)) hso.out.1 hso.out.2)) | (go_at_call 23; exact later_call (follows_is _ e'.k e'.b e'.i e.k e.b e.i e'.A e.A e'.n e'.c e.n e.c HF.out _))))
              refine wpQuiet_nil ?_
              rintro w' ⟨y, rfl⟩
              go_wp2_with fail
            · go_ret
              refine ⟨⟨false, rfl, ?_⟩, HB.out.trans (y.ok.mono hws)⟩
              have hno : ¬ fodderP es := fun hp => by
                have := (hp.2 (m + 1) e HE.out).2 e' (by omega) (by simpa using HE2.out)
                rw [HF.out] at this
                cases this
              simp [hno]
            · go_roundw
              case rel => exact ⟨m + 2, by omega, by go_num, HB.out.trans (y.ok.mono hws), fun j x hj hx => by
                rcases Nat.lt_or_ge j (m + 1) with h1 | h1
                · exact HA.out j x h1 hx
                · obtain rfl : j = m + 1 := by omega
                  have := HE.out.symm.trans hx
                  cases this
                  refine ⟨HE'.out, fun x' _ hx' => ?_⟩
                  have := HE2.out.symm.trans (by simpa using hx')
                  cases this
                  exact HF.out⟩
              case measure => simp [intOf]; omega
      · obtain rfl : k = n := by omega
        clear hbel
        go_wp2_with fail
        go_ret
        have hyes : fodderP es := ⟨by rw [HL.out]; omega, fun j e he => HA.out j e (by have := (List.getElem?_eq_some_iff.1 he).1; rw [HL.out] at this; exact this) he⟩
        exact ⟨⟨true, rfl, by simp [hyes]⟩, HB.out⟩
end Go.Proofs.Ythinfliplpjdjaa
