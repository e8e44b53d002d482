/-
  The predicate element: what it answers.
-/
import Derived.Test.YthinfliplpjdjaaFits
namespace Go.Proofs.Ythinfliplpjdjaa
open Go.RowKit

def shortAll (cs : List ByteArray) : Bool := cs.all fun s => decide (s.size ≤ 200)
/-- What 'element' answers once the sizes are in range. -/
def kindOk (k b i : Int) (n : Nat) : Bool :=
  if k = 0 then decide (n ≤ 1) else if k = 1 then decide (n = 1 ∧ b = 0 ∧ i = 0) else decide (k = 2 ∧ 0 < n)
def inRange (b i : Int) (n : Nat) : Prop := 0 ≤ b ∧ b ≤ 1000 ∧ 0 ≤ i ∧ i ≤ 1000 ∧ n ≤ 20
def elementOk (k b i : Int) (cs : List ByteArray) : Bool := decide (0 ≤ b ∧ b ≤ 1000 ∧ 0 ≤ i ∧ i ≤ 1000 ∧ cs.length ≤ 20) && shortAll cs && kindOk k b i cs.length

theorem elementOk_false_range {k b i : Int} {cs : List ByteArray} (h : ¬ (0 ≤ b ∧ b ≤ 1000 ∧ 0 ≤ i ∧ i ≤ 1000 ∧ cs.length ≤ 20)) : elementOk k b i cs = false := by
  simp only [elementOk, decide_eq_false h, Bool.false_and]

theorem element_out (k b i : Int) (A : Option Addr) (n c : Nat) (w : World) (hn : n ≤ maxLen)
    (hr : b < 0 ∨ (0 ≤ b ∧ 1000 < b) ∨ (0 ≤ b ∧ b ≤ 1000 ∧ i < 0) ∨ (0 ≤ b ∧ b ≤ 1000 ∧ 0 ≤ i ∧ 1000 < i) ∨ (0 ≤ b ∧ b ≤ 1000 ∧ 0 ≤ i ∧ i ≤ 1000 ∧ 20 < n)) :
    Calls Try.prog 10 #[.agg #[.int .i64 k, .int .i64 b, .int .i64 i, .slice A n c]] w fun e w' => e = .returned (.bool false) ∧ Below w.heap.size w w' := by
  unfold maxLen at hn
  rcases hr with h | ⟨h1, h2⟩ | ⟨h1, h2, h3⟩ | ⟨h1, h2, h3, h4⟩ | ⟨h1, h2, h3, h4, h5⟩
  all_goals
    go_enter Try.func10, Try.ntmps10
    go_wp2
    go_ret
    exact ⟨rfl, (Below.refl _ _).alloc (Nat.le_refl _) _⟩

theorem Strs.alloc {w : World} {B : Nat} {A : Option Addr} {n : Nat} {ss : List ByteArray} (h : Strs w B A n ss) (hB : B ≤ w.heap.size) (o : Obj) : Strs (w.alloc o) B A n ss := Reads.alloc h hB o

theorem elementOk_long {k b i : Int} {cs : List ByteArray} {j : Nat} (hj : j < cs.length) (h : 200 < (cs.getD j ByteArray.empty).size) : elementOk k b i cs = false := by
  have hm : cs[j]'hj ∈ cs := List.getElem_mem _
  have : shortAll cs = false := by
    unfold shortAll
    rw [List.all_eq_false]
    refine ⟨_, hm, ?_⟩
    simp [hj] at h
    simp only [decide_eq_true_eq]
    omega
  simp [elementOk, this]
theorem elementOk_kind {k b i : Int} {cs : List ByteArray} (h1 : 0 ≤ b) (h2 : b ≤ 1000) (h3 : 0 ≤ i) (h4 : i ≤ 1000) (h5 : cs.length ≤ 20)
    (hall : ∀ j, j < cs.length → (cs.getD j ByteArray.empty).size ≤ 200) : elementOk k b i cs = kindOk k b i cs.length := by
  have : shortAll cs = true := by
    unfold shortAll
    rw [List.all_eq_true]
    intro s hs
    obtain ⟨j, hj, rfl⟩ := List.getElem_of_mem hs
    have := hall j hj
    simpa [hj] using this
  simp [elementOk, this, h1, h2, h3, h4, h5]

theorem kind0 {k b i : Int} {n : Nat} (hk : (k == 0) = true) : decide ((n : Int) ≤ 1) = kindOk k b i n := by
  have : k = 0 := by simpa using hk
  subst this
  simp only [kindOk, if_pos]
  exact decide_eq_decide.2 (by omega)
theorem kind1 {k i : Int} {n : Nat} (hk : (k == 1) = true) (hn : (n : Int) = 1) : (i == 0) = kindOk k 0 i n := by
  have : k = 1 := by simpa using hk
  subst this
  have : n = 1 := by omega
  subst this
  simp [kindOk]
  rfl
theorem kind1n {k b i : Int} {n : Nat} (hk : (k == 1) = true) (hn : ¬ (n : Int) = 1) : false = kindOk k b i n := by
  have : k = 1 := by simpa using hk
  subst this
  have : ¬ n = 1 := by omega
  simp [kindOk, this]
theorem kind1b {k b i : Int} {n : Nat} (hk : (k == 1) = true) (hb : ¬ b = 0) : false = kindOk k b i n := by
  have : k = 1 := by simpa using hk
  subst this
  simp [kindOk, hb]

set_option maxHeartbeats 800000 in
theorem element_in (k b i : Int) (A : Option Addr) (n c : Nat) (cs : List ByteArray) (B : Nat) (w : World) (h : Strs w B A n cs) (hB : B ≤ w.heap.size)
    (hs : ∀ s ∈ cs, s.size ≤ maxLen) (h1 : 0 ≤ b) (h2 : b ≤ 1000) (h3 : 0 ≤ i) (h4 : i ≤ 1000) (h5 : n ≤ 20) :
    Calls Try.prog 10 #[.agg #[.int .i64 k, .int .i64 b, .int .i64 i, .slice A n c]] w fun e w' => e = .returned (.bool (elementOk k b i cs)) ∧ Below w.heap.size w w' := by
  unfold maxLen at hs
  have HL := Lib.hid h.len
  have HS := Lib.hid hs
  have HH := Lib.hid (h.alloc hB (.cells #[.int .i64 k, .int .i64 b, .int .i64 i, .slice A n c] 24))
  clear hs h
  go_enter Try.func10, Try.ntmps10
  go_wp2
  go_loop [3] (fun t => ∃ j : Nat, j ≤ n ∧ t = .int .i64 j ∧ (∀ l, l < j → (cs.getD l ByteArray.empty).size ≤ 200)) (fun t => n - (intOf t).toNat)
  case atStart => exact ⟨0, Nat.zero_le _, rfl, fun j hj => by omega⟩
  case round =>
    obtain ⟨j, hj, rfl, hall⟩ := hrel
    have HA := Lib.hid hall
    clear hall
    by_cases hlt : j < n
    · obtain ⟨ad, rfl, hb, hc⟩ := HH.out.at_ hlt
      have hsz : (cs.getD j ByteArray.empty).size ≤ 9223372036854775807 := by
        have := HS.out (cs[j]'(by rw [HL.out]; exact hlt)) (List.getElem_mem _)
        simp [HL.out, hlt]; omega
      obtain ⟨s, hs⟩ : ∃ s, s = cs.getD j ByteArray.empty := ⟨_, rfl⟩
      rw [← hs] at hc hsz
      have HE := Lib.hid hs
      clear hs
      go_wp2
      · go_ret
        exact ⟨ret_bool (elementOk_long (j := j) (by rw [HL.out]; exact hlt) (by rw [← HE.out]; omega)).symm, (Below.refl _ _).alloc (Nat.le_refl _) _⟩
      · go_round
        case rel => exact ⟨j + 1, by omega, by go_num, fun l hl => by
          rcases Nat.lt_or_ge l j with h1 | h1
          · exact HA.out l h1
          · obtain rfl : l = j := by omega
            rw [← HE.out]; omega⟩
        case measure => simp [intOf]; omega
    · obtain rfl : j = n := by omega
      have HK := Lib.hid (elementOk_kind (k := k) h1 h2 h3 h4 (by rw [HL.out]; exact h5) (by rw [HL.out]; exact HA.out))
      go_wp2
      all_goals
        go_ret
        refine ⟨ret_bool ?_, (Below.refl _ _).alloc (Nat.le_refl _) _⟩
        have HKo := HK.out
        rw [HL.out] at HKo
        clear HK HS HH HA
        first
          | (have hk : (k == 0) = true := by assumption
             rw [HKo]; exact kind0 hk)
          | (have hk : (k == 1) = true := by assumption
             have hn : ((j : Nat) : Int) = 1 := by assumption
             have hb : b = 0 := by assumption
             subst hb
             rw [HKo]; exact kind1 hk hn)
          | (have hk : (k == 1) = true := by assumption
             have hn : ¬ ((j : Nat) : Int) = 1 := by assumption
             rw [HKo]; exact kind1n hk hn)
          | (have hk : (k == 1) = true := by assumption
             have hb : ¬ b = 0 := by assumption
             rw [HKo]; exact kind1b hk hb)
          | (have hb : k = 2 := by assumption
             subst hb; rw [HKo]; simp_all [kindOk]; done)
          | (rw [HKo]; simp_all [kindOk]; done)

theorem element_any (k b i : Int) (A : Option Addr) (n c : Nat) (cs : List ByteArray) (B : Nat) (w : World) (h : Strs w B A n cs) (hB : B ≤ w.heap.size) (hn : n ≤ maxLen)
    (hs : ∀ s ∈ cs, s.size ≤ maxLen) :
    Calls Try.prog 10 #[.agg #[.int .i64 k, .int .i64 b, .int .i64 i, .slice A n c]] w fun e w' => e = .returned (.bool (elementOk k b i cs)) ∧ Below w.heap.size w w' := by
  have hl := h.len
  by_cases hr : 0 ≤ b ∧ b ≤ 1000 ∧ 0 ≤ i ∧ i ≤ 1000 ∧ n ≤ 20
  · obtain ⟨h1, h2, h3, h4, h5⟩ := hr
    exact element_in k b i A n c cs B w h hB hs h1 h2 h3 h4 h5
  · rw [elementOk_false_range (by rw [hl]; exact hr)]
    exact element_out k b i A n c w hn (by omega)
end Go.Proofs.Ythinfliplpjdjaa
