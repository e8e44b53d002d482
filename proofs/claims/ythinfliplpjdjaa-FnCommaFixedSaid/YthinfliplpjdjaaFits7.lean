/-
  The size guard zzFits7, and follows: what they answer; they change nothing that was there.
-/
import Derived.Test.YthinfliplpjdjaaMaxBlanksWalk
namespace Go.Proofs.Ythinfliplpjdjaa
open Go.RowKit

def fits7 (es : List CE) : Bool := decide (es.length ≤ 2147483647) && es.all fun e => fits5 e.cs

/-- What is known of every element of a slice that came in. -/
def Sound (es : List CE) : Prop := ∀ e ∈ es, e.n ≤ maxLen ∧ ∀ s ∈ e.cs, s.size ≤ maxLen

theorem fits7_false_len {es : List CE} (h : 2147483647 < es.length) : fits7 es = false := by
  have : ¬ es.length ≤ 2147483647 := by omega
  simp [fits7, this]
theorem fits7_false_at {es : List CE} {k : Nat} {e : CE} (he : es[k]? = some e) (h : fits5 e.cs = false) : fits7 es = false := by
  simp only [fits7, Bool.and_eq_false_iff]
  right
  rw [List.all_eq_false]
  exact ⟨e, List.mem_of_getElem? he, by simp [h]⟩
theorem fits7_true {es : List CE} (h : es.length ≤ 2147483647) (hall : ∀ j e, j < es.length → es[j]? = some e → fits5 e.cs = true) : fits7 es = true := by
  simp only [fits7, Bool.and_eq_true, decide_eq_true_eq, List.all_eq_true]
  refine ⟨h, fun e he => ?_⟩
  obtain ⟨j, hj, rfl⟩ := List.getElem_of_mem he
  exact hall j _ hj (List.getElem?_eq_getElem hj)

theorem Els.below {w w' : World} {B : Nat} {A : Option Addr} {n : Nat} {es : List CE} (h : Els w B A n es) (hb : Below B w w') : Els w' B A n es :=
  ⟨h.1, h.2.1.below hb, fun e he => Strs.below (h.2.2 e he) hb⟩
theorem Els.more {w : World} {B B' : Nat} {A : Option Addr} {n : Nat} {es : List CE} (h : Els w B A n es) (hb : B ≤ B') : Els w B' A n es :=
  ⟨h.1, h.2.1.more hb, fun e he => Reads.more (h.2.2 e he) hb⟩

set_option maxRecDepth 100000 in
set_option maxHeartbeats 800000 in
theorem zzFits7_any (A : Option Addr) (n c : Nat) (es : List CE) (B : Nat) (w : World) (h : Els w B A n es) (hB : B ≤ w.heap.size) (hn : n ≤ maxLen) (hs : Sound es) :
    Calls Try.prog 17 #[.slice A n c] w fun e w' => e = .returned (.bool (fits7 es)) ∧ Below w.heap.size w w' := by
  unfold maxLen at hn
  have HH := Lib.hid h
  have HS := Lib.hid hs
  have hl := h.1
  clear h hs
  by_cases hbig : 2147483647 < n
  · have HF := Lib.hid (fits7_false_len (es := es) (by omega))
    clear hl
    go_enter Try.func17, Try.ntmps17
    go_wp2_with fail
    go_ret
    exact ⟨ret_bool HF.out.symm, Below.refl _ _⟩
  · have HL := Lib.hid hl
    clear hl
    go_enter Try.func17, Try.ntmps17
    go_wp2_with fail
    go_loopw [10] (fun i wr => ∃ k : Nat, k ≤ n ∧ i = .int .i64 k ∧ Below w.heap.size w wr ∧ (∀ j e, j < k → es[j]? = some e → fits5 e.cs = true)) (fun i _ => n - (intOf i).toNat)
    case atStart => exact ⟨0, Nat.zero_le _, rfl, Below.refl _ _, fun j e hj _ => by omega⟩
    case round =>
      obtain ⟨k, hk, rfl, hbel, hall⟩ := hrel
      have HA := Lib.hid hall
      clear hall
      by_cases hlt : k < n
      · obtain ⟨b, o, e, rfl, hb, hek, hstr, c0, c1, c2, c3⟩ := (HH.out.below (hbel.mono hB)).at_ hlt
        have HE := Lib.hid hek
        have HT := Lib.hid hstr
        have HB := Lib.hid hbel
        have hws : w.heap.size ≤ wr.heap.size := hbel.size
        clear hek hstr hbel
        go_wp2_with fail
        have hso := HS.out e (List.mem_of_getElem? HE.out)
        refine (zzFits8_any e.k e.b e.i e.A e.n e.c e.cs B _ (HT.out.alloc (by omega) _) (by simp; omega) hso.1 hso.2).mono ?_
        clear hso
        rintro e1 w1 ⟨rfl, hb1⟩
        have HB1 := Lib.hid ((HB.out.alloc hws _).trans (hb1.mono (by simp; omega)))
        clear hb1
        cases hf : fits5 e.cs
        · have HF := Lib.hid (fits7_false_at HE.out hf)
          go_wp2_with fail
          go_ret
          exact ⟨ret_bool HF.out.symm, HB1.out⟩
        · have HF := Lib.hid hf
          go_wp2_with fail
          go_roundw
          case rel => exact ⟨k + 1, by omega, by go_num, HB1.out, fun j e' hj he' => by
            rcases Nat.lt_or_ge j k with h1 | h1
            · exact HA.out j e' h1 he'
            · obtain rfl : j = k := by omega
              have := HE.out.symm.trans he'
              cases this
              exact HF.out⟩
          case measure => simp [intOf]; omega
      · obtain rfl : k = n := by omega
        have HB := Lib.hid hbel
        clear hbel
        go_wp2_with fail
        go_ret
        exact ⟨ret_bool (fits7_true (by rw [HL.out]; omega) (by rw [HL.out]; exact HA.out)).symm, HB.out⟩

/-- The kinds of which the second may follow the first. -/
def followsK (a b : Int) : Bool := if b = 0 then a == 1 else if b = 2 then a != 1 else true

theorem follows_any (k1 b1 i1 k2 b2 i2 : Int) (s1 s2 : Value) (A1 A2 : Option Addr) (n1 c1 n2 c2 : Nat) (hs1 : s1 = .slice A1 n1 c1) (hs2 : s2 = .slice A2 n2 c2) (w : World) :
    Calls Try.prog 23 #[.agg #[.int .i64 k1, .int .i64 b1, .int .i64 i1, s1], .agg #[.int .i64 k2, .int .i64 b2, .int .i64 i2, s2]] w fun e w' => e = .returned (.bool (followsK k1 k2)) ∧ Below w.heap.size w w' := by
  subst hs1 hs2
  by_cases h0 : k2 = 0
  · subst h0
    go_enter Try.func23, Try.ntmps23
    go_wp2
    go_ret
    exact ⟨ret_bool (by simp [followsK]), ((Below.refl _ _).alloc (Nat.le_refl _) _).alloc (by simp) _⟩
  · by_cases h2 : k2 = 2
    · subst h2
      go_enter Try.func23, Try.ntmps23
      go_wp2
      go_ret
      exact ⟨ret_bool (by simp [followsK]), ((Below.refl _ _).alloc (Nat.le_refl _) _).alloc (by simp) _⟩
    · have HF := Lib.hid (show followsK k1 k2 = true by simp [followsK, h0, h2])
      have e0 : (k2 == 0) = false := by simpa using h0
      have e2 : (k2 == 2) = false := by simpa using h2
      clear h0 h2
      go_enter Try.func23, Try.ntmps23
      go_wp2
      go_ret
      exact ⟨ret_bool HF.out.symm, ((Below.refl _ _).alloc (Nat.le_refl _) _).alloc (by simp) _⟩
end Go.Proofs.Ythinfliplpjdjaa
