/-
  The size guards zzFits13, zzFits14; StackRight: what they say if they answer true.
-/
import Derived.Test.YtkbjcpeogecbgaaStk
namespace Go.Proofs.Ytkbjcpeogecbgaa
open Go.RowKit

def GdPost (Q : Prop) (w : World) (e : Ending) (w' : World) : Prop := (∃ b, e = .returned (.bool b) ∧ (b = true → Q)) ∧ Below w.heap.size w w'
theorem fits5_len {ss : List ByteArray} (h : fits5 ss = true) : ss.length ≤ 2147483647 := by
  simp only [fits5, Bool.and_eq_true, decide_eq_true_eq] at h
  exact h.1
set_option maxRecDepth 100000 in
theorem zzFits14_any (e : SE) (B : Nat) (w : World) (h : Strs w B e.A e.n e.ns) (hB : B ≤ w.heap.size) (hn : e.n ≤ maxLen) (hm : e.nm.size ≤ maxLen) (hs : ∀ s ∈ e.ns, s.size ≤ maxLen) :
    Calls Try.prog 8 #[.agg #[.int .i64 e.k, .slice e.A e.n e.c, .string e.nm, .int .i64 e.num, .bool e.tr]] w (GdPost (e.n ≤ 2147483647) w) := by
  have HH := Lib.hid h
  have HL := Lib.hid (Strs.len h)
  have HS := Lib.hid hs
  have HN := Lib.hid hn
  unfold maxLen at hm
  clear h hs hn
  obtain ⟨k, A, n, c, ns, nm, num, tr⟩ := e
  simp only at HH HL HS HN hm ⊢
  go_enter Try.func8, Try.ntmps8
  go_wp2_with fail
  refine (zzFits5_any A n c ns B _ (Reads.alloc HH.out hB _) HN.out HS.out).mono ?_
  rintro e w1 ⟨rfl, rfl⟩
  cases hf : fits5 ns
  · go_wp2
    go_ret
    exact ⟨⟨_, rfl, fun h => (by cases h)⟩, (Below.refl _ _).alloc (Nat.le_refl _) _⟩
  · have HF := Lib.hid (fits5_len hf)
    clear hf
    by_cases hbig : 2147483647 < nm.size
    · go_wp2
      go_ret
      exact ⟨⟨_, rfl, fun h => (by cases h)⟩, (Below.refl _ _).alloc (Nat.le_refl _) _⟩
    · go_wp2
      go_ret
      exact ⟨⟨_, rfl, fun _ => by have := HF.out; rw [HL.out] at this; exact this⟩, (Below.refl _ _).alloc (Nat.le_refl _) _⟩

set_option maxRecDepth 100000 in
set_option maxHeartbeats 800000 in
theorem zzFits13_any (A : Option Addr) (n c : Nat) (es : List SE) (B : Nat) (w : World) (h : Steps w B A n es) (hB : B ≤ w.heap.size) (hn : n ≤ maxLen) (hs : SoundS es) :
    Calls Try.prog 4 #[.slice A n c] w (GdPost (∀ e ∈ es, e.n ≤ 2147483647) w) := by
  unfold maxLen at hn
  have HH := Lib.hid h
  have HS := Lib.hid hs
  have HL := Lib.hid h.1
  clear h hs
  by_cases hbig : 2147483647 < n
  · go_enter Try.func4, Try.ntmps4
    go_wp2_with fail
    go_ret
    exact ⟨⟨_, rfl, fun h => (by cases h)⟩, Below.refl _ _⟩
  · go_enter Try.func4, Try.ntmps4
    go_wp2_with fail
    go_loopw [10] (fun i wr => ∃ k : Nat, k ≤ n ∧ i = .int .i64 k ∧ Hid (Below w.heap.size w wr) ∧ Hid (∀ j e, j < k → es[j]? = some e → e.n ≤ 2147483647)) (fun i _ => n - (intOf i).toNat)
    case atStart => exact ⟨0, Nat.zero_le _, rfl, Lib.hid (Below.refl _ _), Lib.hid (fun j e hj _ => by omega)⟩
    case round =>
      obtain ⟨k, hk, rfl, HB, HA⟩ := hrel
      by_cases hlt : k < n
      · obtain ⟨b, o, e, rfl, hb, hek, hstr, c0, c1, c2, c3, c4⟩ := (HH.out.below HB.out hB).at_ hlt
        have HE := Lib.hid hek
        have HT := Lib.hid hstr
        have hws : w.heap.size ≤ wr.heap.size := HB.out.size
        clear hek hstr
        go_wp2_with fail
        have hso := HS.out e (List.mem_of_getElem? HE.out)
        refine (zzFits14_any e B _ (Reads.alloc HT.out (by omega) _) (by simp; omega) hso.1 hso.2.1 hso.2.2).mono ?_
        clear hso
        rintro e1 w1 ⟨⟨bb, rfl, hbb⟩, hb1⟩
        have HB1 := Lib.hid ((HB.out.alloc hws _).trans (hb1.mono (by simp; omega)))
        have HBB := Lib.hid hbb
        clear hb1 hbb
        cases bb
        · go_wp2_with fail
          go_ret
          exact ⟨⟨_, rfl, fun h => (by cases h)⟩, HB1.out⟩
        · go_wp2_with fail
          go_roundw
          case rel => exact ⟨k + 1, by omega, by go_num, HB1, Lib.hid (fun j e' hj he' => by
            rcases Nat.lt_or_ge j k with h1 | h1
            · exact HA.out j e' h1 he'
            · obtain rfl : j = k := by omega
              have := HE.out.symm.trans he'
              cases this
              exact HBB.out (by first | rfl | trivial))⟩
          case measure => simp [intOf]; omega
      · obtain rfl : k = n := by omega
        go_wp2_with fail
        go_ret
        refine ⟨⟨_, rfl, fun _ e he => ?_⟩, HB.out⟩
        obtain ⟨j, hj, rfl⟩ := List.getElem_of_mem he
        exact HA.out j _ (by rw [← HL.out]; exact hj) (List.getElem?_eq_getElem hj)

def RightS (e : SE) : Prop := 1 ≤ e.k ∧ e.k ≤ 5 ∧ (e.k = 3 → 1 ≤ e.num)
def RtPost (es : List SE) (w : World) (e : Ending) (w' : World) : Prop := (∃ b, e = .returned (.bool b) ∧ (b = true → ∀ e ∈ es, RightS e)) ∧ w = w'
set_option maxRecDepth 100000 in
set_option maxHeartbeats 800000 in
theorem stackRight_any (A : Option Addr) (n c : Nat) (es : List SE) (B : Nat) (w : World) (h : Steps w B A n es) (hn : n ≤ 9223372036854775807) :
    Calls Try.prog 5 #[.slice A n c] w (RtPost es w) := by
  have HH := Lib.hid h
  have HL := Lib.hid h.1
  clear h
  go_enter Try.func5, Try.ntmps5
  go_wp2
  go_loop [3] (fun t => ∃ j : Nat, j ≤ n ∧ t = .int .i64 j ∧ Hid (∀ i e, i < j → es[i]? = some e → RightS e)) (fun t => n - (intOf t).toNat)
  case atStart => exact ⟨0, Nat.zero_le _, rfl, Lib.hid (fun i e hi _ => by omega)⟩
  case round =>
    obtain ⟨j, hj, rfl, HA⟩ := hrel
    by_cases hlt : j < n
    · obtain ⟨b, o, e, rfl, hb, hej, hstr, c0, c1, c2, c3, c4⟩ := HH.out.at_ hlt
      have HE := Lib.hid hej
      clear hej hstr c1 c2 c4
      obtain ⟨k, A, m, c', ns, nm, num, tr⟩ := e
      simp only at c0 c3
      have step : RightS ⟨k, A, m, c', ns, nm, num, tr⟩ → ∀ i e, i < j + 1 → es[i]? = some e → RightS e := by
        intro hr i e hi he
        rcases Nat.lt_or_ge i j with h1 | h1
        · exact HA.out i e h1 he
        · obtain rfl : i = j := by omega
          have := HE.out.symm.trans he
          cases this
          exact hr
      have HST := Lib.hid step
      clear step
      by_cases h1 : k < 1
      · go_wp2
        go_ret
        exact ⟨⟨_, rfl, fun h => (by cases h)⟩, rfl⟩
      · by_cases h2 : 5 < k
        · go_wp2
          go_ret
          exact ⟨⟨_, rfl, fun h => (by cases h)⟩, rfl⟩
        · by_cases h3 : k = 3
          · subst h3
            by_cases h4 : num < 1
            · go_wp2
              go_ret
              exact ⟨⟨_, rfl, fun h => (by cases h)⟩, rfl⟩
            · go_wp2
              go_round
              case rel => exact ⟨j + 1, by omega, by go_num, Lib.hid (HST.out ⟨by show (1 : Int) ≤ 3; omega, by show (3 : Int) ≤ 5; omega, fun _ => by show 1 ≤ num; omega⟩)⟩
              case measure => simp [intOf]; omega
          · have e3 : (k == 3) = false := by simpa using h3
            have H3 := Lib.hid h3
            clear h3
            go_wp2
            go_round
            case rel => exact ⟨j + 1, by omega, by go_num, Lib.hid (HST.out ⟨by show 1 ≤ k; omega, by show k ≤ 5; omega, fun h => absurd h H3.out⟩)⟩
            case measure => simp [intOf]; omega
    · obtain rfl : j = n := by omega
      go_wp2
      go_ret
      refine ⟨⟨_, rfl, fun _ e he => ?_⟩, rfl⟩
      obtain ⟨i, hi, rfl⟩ := List.getElem_of_mem he
      exact HA.out i _ (by rw [← HL.out]; exact hi) (List.getElem?_eq_getElem hi)
end Go.Proofs.Ytkbjcpeogecbgaa
