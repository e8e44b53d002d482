/-
  What FnCommaFixed asks of its lists: spec.Feeds, plainComments, spec.FodderBreaks, containsNewline.
-/
import Derived.Test.YthinfliplpjdjaaConcatLaw
namespace Go.Proofs.Ythinfliplpjdjaa
open Go.RowKit

def SomeNum (w : World) (e : Ending) (w' : World) : Prop := (∃ q : Int, e = .returned (.int .i64 q)) ∧ w = w'

theorem feeds_any (s : ByteArray) (w : World) (hs : s.size ≤ maxLen) : Calls Try.prog 46 #[.string s] w (SomeNum w) := by
  unfold maxLen at hs
  go_enter Try.func46, Try.ntmps46
  go_wp2
  go_loop [3, 4] (fun n i => ∃ k m : Nat, k ≤ s.size ∧ m ≤ k ∧ i = .int .i64 k ∧ n = .int .i64 m) (fun _ i => s.size - (intOf i).toNat)
  case atStart => exact ⟨0, 0, Nat.zero_le _, Nat.le_refl _, rfl, rfl⟩
  case round =>
    obtain ⟨k, m, hk, hm, rfl, rfl⟩ := hrel
    by_cases hlt : k < s.size
    · go_wp2
      · go_round
        case rel => exact ⟨k + 1, m + 1, by omega, by omega, by go_num, by go_num⟩
        case measure => simp [intOf]; omega
      · go_round
        case rel => exact ⟨k + 1, m, by omega, by omega, by go_num, rfl⟩
        case measure => simp [intOf]; omega
    · go_wp2
      go_ret
      exact ⟨⟨_, rfl⟩, rfl⟩

/-- An element that ends a line. -/
def breaksB (l : List Say) : Bool := l.any fun e => e.1 != 1

theorem breaks_at {es : List CE} {k : Nat} {e : CE} (he : es[k]? = some e) (h : (e.k != 1) = true) : breaksB (es.map CE.say) = true := by
  unfold breaksB
  rw [List.any_eq_true]
  exact ⟨e.say, List.mem_map.2 ⟨e, List.mem_of_getElem? he, rfl⟩, h⟩
theorem breaks_none {es : List CE} (h : ∀ j e, j < es.length → es[j]? = some e → (e.k != 1) = false) : breaksB (es.map CE.say) = false := by
  unfold breaksB
  rw [List.any_eq_false]
  intro x hx
  obtain ⟨e, he, rfl⟩ := List.mem_map.1 hx
  obtain ⟨j, hj, rfl⟩ := List.getElem_of_mem he
  have := h j _ hj (List.getElem?_eq_getElem hj)
  simpa [CE.say] using this

theorem breaks_any (A : Option Addr) (n c : Nat) (es : List CE) (B : Nat) (w : World) (h : Els w B A n es) (hn : n ≤ maxLen) :
    Calls Try.prog 33 #[.slice A n c] w fun e w' => e = .returned (.bool (breaksB (es.map CE.say))) ∧ w = w' := by
  unfold maxLen at hn
  have HH := Lib.hid h
  have HL := Lib.hid h.1
  clear h
  go_enter Try.func33, Try.ntmps33
  go_wp2
  go_loop [3] (fun i => ∃ k : Nat, k ≤ n ∧ i = .int .i64 k ∧ (∀ j e, j < k → es[j]? = some e → (e.k != 1) = false)) (fun i => n - (intOf i).toNat)
  case atStart => exact ⟨0, Nat.zero_le _, rfl, fun j e hj _ => by omega⟩
  case round =>
    obtain ⟨k, hk, rfl, hall⟩ := hrel
    have HA := Lib.hid hall
    clear hall
    by_cases hlt : k < n
    · obtain ⟨b, o, e, rfl, hb, he, _, c0, _⟩ := HH.out.at_ hlt
      have HE := Lib.hid he
      clear he
      cases hq : (e.k != 1)
      · go_wp2
        go_round
        case rel => exact ⟨k + 1, by omega, by go_num, fun j x hj hx => by
          rcases Nat.lt_or_ge j k with h1 | h1
          · exact HA.out j x h1 hx
          · obtain rfl : j = k := by omega
            have := HE.out.symm.trans hx
            cases this
            exact hq⟩
        case measure => simp [intOf]; omega
      · go_wp2
        go_ret
        exact ⟨ret_bool (breaks_at HE.out hq).symm, rfl⟩
    · obtain rfl : k = n := by omega
      go_wp2
      go_ret
      exact ⟨ret_bool (breaks_none (by rw [HL.out]; exact HA.out)).symm, rfl⟩

set_option maxRecDepth 100000 in
theorem newline_any (A : Option Addr) (n c : Nat) (es : List CE) (B : Nat) (w : World) (h : FodR w B A n es) (hB : B ≤ w.heap.size) (hn : n ≤ maxLen) :
    Calls Try.prog 76 #[.slice A n c] w fun e w' => e = .returned (.bool (breaksB (es.map CE.say))) ∧ Below w.heap.size w w' := by
  unfold maxLen at hn
  have HH := Lib.hid h
  have HL := Lib.hid h.1
  clear h
  go_enter Try.func76, Try.ntmps76
  go_wp2
  go_loopw [7] (fun i wr => ∃ k : Nat, k ≤ n ∧ i = .int .i64 k ∧ Below w.heap.size w wr ∧ (∀ j e, j < k → es[j]? = some e → (e.k != 1) = false)) (fun i _ => n - (intOf i).toNat)
  case atStart => exact ⟨0, Nat.zero_le _, rfl, Below.refl _ _, fun j e hj _ => by omega⟩
  case round =>
    obtain ⟨k, hk, rfl, hbel, hall⟩ := hrel
    have HA := Lib.hid hall
    have HB := Lib.hid hbel
    clear hall
    by_cases hlt : k < n
    · obtain ⟨b, o, e, rfl, hb, he, _, c0, c1, c2, c3⟩ := HH.out.at_ hlt
      have d0 := (hbel.cell (p := ⟨b, o + k * 4, none⟩) (by show b < _; omega)).trans c0
      have d1 := (hbel.cell (p := ⟨b, o + k * 4 + 1, none⟩) (by show b < _; omega)).trans c1
      have d2 := (hbel.cell (p := ⟨b, o + k * 4 + 2, none⟩) (by show b < _; omega)).trans c2
      have d3 := (hbel.cell (p := ⟨b, o + k * 4 + 3, none⟩) (by show b < _; omega)).trans c3
      have hws := hbel.size
      have HE := Lib.hid he
      clear he c0 c1 c2 c3 hbel
      cases hq : (e.k != 1)
      · go_wp2
        go_roundw
        case rel => exact ⟨k + 1, by omega, by go_num, HB.out.alloc hws _, fun j x hj hx => by
          rcases Nat.lt_or_ge j k with h1 | h1
          · exact HA.out j x h1 hx
          · obtain rfl : j = k := by omega
            have := HE.out.symm.trans hx
            cases this
            exact hq⟩
        case measure => simp [intOf]; omega
      · go_wp2
        go_ret
        exact ⟨ret_bool (breaks_at HE.out hq).symm, HB.out.alloc hws _⟩
    · obtain rfl : k = n := by omega
      clear hbel
      go_wp2
      go_ret
      exact ⟨ret_bool (breaks_none (by rw [HL.out]; exact HA.out)).symm, HB.out⟩

def PlainPost (es : List CE) (w : World) (e : Ending) (w' : World) : Prop := (∃ b : Bool, e = .returned (.bool b) ∧ (b = true → fodderP es)) ∧ Below w.heap.size w w'

set_option maxRecDepth 100000 in
set_option maxHeartbeats 1600000 in
theorem plain_any (A : Option Addr) (n c : Nat) (es : List CE) (B : Nat) (w : World) (h : Els w B A n es) (hB : B ≤ w.heap.size) (hn : n ≤ maxLen) (hs : Sound es) :
    Calls Try.prog 31 #[.slice A n c] w (PlainPost es w) := by
  have HH := Lib.hid h
  have HS := Lib.hid hs
  have HN := Lib.hid hn
  unfold maxLen at hn
  clear h hs
  go_enter Try.func31, Try.ntmps31
  go_wp2
  go_loop [3] (fun i => ∃ k : Nat, k ≤ n ∧ i = .int .i64 k) (fun i => n - (intOf i).toNat)
  case atStart => exact ⟨0, Nat.zero_le _, rfl⟩
  case round =>
    obtain ⟨k, hk, rfl⟩ := hrel
    by_cases hlt : k < n
    · obtain ⟨b, o, e, rfl, hb, he, hst, _, _, _, c3⟩ := HH.out.at_ hlt
      have hso := Lib.hid (HS.out e (List.mem_of_getElem? he))
      have HT := Lib.hid hst
      have hen : e.n ≤ 9223372036854775807 := by have := hso.out.1; unfold maxLen at this; omega
      clear he hst
      go_wp2_with fail
      go_loop [4] (fun i => ∃ j : Nat, j ≤ e.n ∧ i = .int .i64 j) (fun i => e.n - (intOf i).toNat)
      case atStart => exact ⟨0, Nat.zero_le _, rfl⟩
      case round =>
        obtain ⟨j, hj, rfl⟩ := hrel
        by_cases hjl : j < e.n
        · obtain ⟨ad, hA, hb2, hc⟩ := HT.out.at_ hjl
          have hsz : (e.cs.getD j ByteArray.empty).size ≤ maxLen := hso.out.2 _ (by
            have hl := HT.out.len
            rw [List.getD_eq_getElem?_getD, List.getElem?_eq_getElem (by omega)]
            exact List.getElem_mem _)
          rw [hA] at c3
          generalize e.cs.getD j ByteArray.empty = s at hc hsz
          have HSZ := Lib.hid hsz
          clear hsz hA
          cases hq : s.toList.isEmpty
          · go_wp2_with (go_at_call 46; refine (feeds_any s _ HSZ.out).mono ?_; rintro e1 w1 ⟨⟨q, rfl⟩, rfl⟩)
            · go_ret
              exact ⟨⟨false, rfl, by simp⟩, Below.refl _ _⟩
            · go_round
              case rel => exact ⟨j + 1, by omega, by go_num⟩
              case measure => simp [intOf]; omega
          · go_wp2_with fail
            go_ret
            exact ⟨⟨false, rfl, by simp⟩, Below.refl _ _⟩
        · obtain rfl : j = e.n := by omega
          go_wp2_with fail
          go_round
          case rel => exact ⟨k + 1, by omega, by go_num⟩
          case measure => simp [intOf]; omega
    · obtain rfl : k = n := by omega
      go_wp2_with fail
      refine (lawFodder_any A k c es B _ HH.out hB HN.out HS.out).mono ?_
      rintro e1 w1 ⟨⟨bb, rfl, hbb⟩, hb⟩
      have HBB := Lib.hid hbb
      have HB := Lib.hid hb
      clear hbb hb
      go_wp2_with fail
      go_ret
      exact ⟨⟨bb, rfl, HBB.out.1⟩, HB.out⟩
end Go.Proofs.Ythinfliplpjdjaa
