/-
  laws.apart, laws.calls: if they answer true, the lists are short and have no name twice.
-/
import Derived.Test.YthinfliplpjdjaaFits
import Derived.Test.YthinfliplpjdjaaCallLaw
import Derived.Deep.QuietTactic
import Derived.BigQuiet
namespace Go.Proofs.Ythinfliplpjdjaa
open Go.RowKit

theorem str_beq (a b : ByteArray) : (a.toList == b.toList) = decide (a = b) := by
  rw [ByteArray.toList_eq, ByteArray.toList_eq]
  by_cases h : a = b
  · subst h; simp
  · have : a.data.toList ≠ b.data.toList := fun e => h (WideShapes.bytes_inj e)
    rw [decide_eq_false h]
    exact beq_eq_false_iff_ne.2 this

def SomeB (w : World) (e : Ending) (w' : World) : Prop := (∃ b, e = .returned (.bool b)) ∧ w = w'
def SomeBN (w : World) (e : Ending) (w' : World) : Prop := (∃ b, e = .returned (.bool b)) ∧ Below w.heap.size w w'

set_option maxRecDepth 100000 in
theorem letter_any (c : Nat) (hc : c < 256) (w : World) : Calls Try.prog 80 #[.int .u8 (c : Int)] w (SomeB w) := by
  by_cases h1 : 97 ≤ c <;> by_cases h2 : c ≤ 122 <;> by_cases h3 : 65 ≤ c <;> by_cases h4 : c ≤ 90 <;> by_cases h5 : c = 95 <;> first | (exfalso; omega) | skip
  all_goals
    have e5 : ((c : Int) == 95) = decide (c = 95) := by
      by_cases h : c = 95
      · subst h; decide
      · rw [decide_eq_false h]; simp; omega
    go_enter Try.func80, Try.ntmps80
    go_wp2
    all_goals
      go_ret
      exact ⟨⟨_, rfl⟩, rfl⟩
set_option maxRecDepth 100000 in
theorem digit_any (c : Nat) (hc : c < 256) (w : World) : Calls Try.prog 81 #[.int .u8 (c : Int)] w (SomeB w) := by
  by_cases h1 : 48 ≤ c <;> by_cases h2 : c ≤ 57 <;> first | (exfalso; omega) | skip
  all_goals
    go_enter Try.func81, Try.ntmps81
    go_wp2
    all_goals
      go_ret
      exact ⟨⟨_, rfl⟩, rfl⟩
set_option maxRecDepth 100000 in
set_option maxHeartbeats 800000 in
theorem word_any (s : ByteArray) (hs : s.size ≤ 9223372036854775807) (w : World) : Calls Try.prog 69 #[.string s] w (SomeB w) := by
  by_cases h0 : s.size = 0
  · have q : (s.toList == []) = true := by
      rw [ByteArray.toList_eq]
      have h1 : s.data.toList = [] := List.eq_nil_of_length_eq_zero (by simpa using h0)
      rw [h1]; rfl
    go_enter Try.func69, Try.ntmps69
    go_wp2
    go_ret
    exact ⟨⟨_, rfl⟩, rfl⟩
  · have q : (s.toList == []) = false := by
      rw [ByteArray.toList_eq]
      refine beq_eq_false_iff_ne.2 fun e => h0 ?_
      have := congrArg List.length e
      simpa using this
    have hp : 0 < s.size := by omega
    go_enter Try.func69, Try.ntmps69
    go_wp2_with fail
    all_goals try (exfalso; omega)
    refine (letter_any _ (UInt8.toNat_lt _) _).mono ?_
    rintro e w' ⟨⟨b, rfl⟩, rfl⟩
    cases b
    · go_wp2_with fail
      go_ret
      exact ⟨⟨_, rfl⟩, rfl⟩
    · go_wp2_with fail
      go_loop [3] (fun t => ∃ j : Nat, j ≤ s.size ∧ t = .int .i64 j) (fun t => s.size - (intOf t).toNat)
      case atStart => exact ⟨1, by omega, rfl⟩
      case round =>
        obtain ⟨j, hj, rfl⟩ := hrel
        by_cases hlt : j < s.size
        · go_wp2_with fail
          all_goals try (exfalso; omega)
          refine (letter_any _ (UInt8.toNat_lt _) _).mono ?_
          rintro e w' ⟨⟨b, rfl⟩, rfl⟩
          cases b
          · go_wp2_with fail
            refine (digit_any _ (UInt8.toNat_lt _) _).mono ?_
            rintro e w' ⟨⟨b, rfl⟩, rfl⟩
            cases b
            · go_wp2_with fail
              go_ret
              exact ⟨⟨_, rfl⟩, rfl⟩
            · go_wp2_with fail
              go_round
              case rel => exact ⟨j + 1, by omega, by go_num⟩
              case measure => simp [intOf]; omega
          · go_wp2_with fail
            go_round
            case rel => exact ⟨j + 1, by omega, by go_num⟩
            case measure => simp [intOf]; omega
        · go_wp2_with fail
          go_ret
          exact ⟨⟨_, rfl⟩, rfl⟩

theorem keyword_any (s : ByteArray) (w : World) : Calls Try.prog 70 #[.string s] w (SomeBN w) := by
  have hb : Below w.heap.size w (w.alloc (.cells #[.string ⟨#[97, 115, 115, 101, 114, 116]⟩, .string ⟨#[101, 108, 115, 101]⟩, .string ⟨#[101, 114, 114, 111, 114]⟩, .string ⟨#[102, 97, 108, 115, 101]⟩, .string ⟨#[102, 111, 114]⟩, .string ⟨#[102, 117, 110, 99, 116, 105, 111, 110]⟩, .string ⟨#[105, 102]⟩, .string ⟨#[105, 109, 112, 111, 114, 116]⟩, .string ⟨#[105, 109, 112, 111, 114, 116, 98, 105, 110]⟩, .string ⟨#[105, 109, 112, 111, 114, 116, 115, 116, 114]⟩, .string ⟨#[105, 110]⟩, .string ⟨#[108, 111, 99, 97, 108]⟩, .string ⟨#[110, 117, 108, 108]⟩, .string ⟨#[115, 101, 108, 102]⟩, .string ⟨#[115, 117, 112, 101, 114]⟩, .string ⟨#[116, 97, 105, 108, 115, 116, 114, 105, 99, 116]⟩, .string ⟨#[116, 104, 101, 110]⟩, .string ⟨#[116, 114, 117, 101]⟩] 9)) := (Below.refl _ _).alloc (Nat.le_refl _) _
  have key : ∀ j : Nat, j < 18 → ∃ x, (w.alloc (.cells #[.string ⟨#[97, 115, 115, 101, 114, 116]⟩, .string ⟨#[101, 108, 115, 101]⟩, .string ⟨#[101, 114, 114, 111, 114]⟩, .string ⟨#[102, 97, 108, 115, 101]⟩, .string ⟨#[102, 111, 114]⟩, .string ⟨#[102, 117, 110, 99, 116, 105, 111, 110]⟩, .string ⟨#[105, 102]⟩, .string ⟨#[105, 109, 112, 111, 114, 116]⟩, .string ⟨#[105, 109, 112, 111, 114, 116, 98, 105, 110]⟩, .string ⟨#[105, 109, 112, 111, 114, 116, 115, 116, 114]⟩, .string ⟨#[105, 110]⟩, .string ⟨#[108, 111, 99, 97, 108]⟩, .string ⟨#[110, 117, 108, 108]⟩, .string ⟨#[115, 101, 108, 102]⟩, .string ⟨#[115, 117, 112, 101, 114]⟩, .string ⟨#[116, 97, 105, 108, 115, 116, 114, 105, 99, 116]⟩, .string ⟨#[116, 104, 101, 110]⟩, .string ⟨#[116, 114, 117, 101]⟩] 9)).cell? ⟨w.heap.size, j, none⟩ = some (.string x) := by
    intro j hj
    rw [(Blk.new w _ _).cell j]
    have h : j = 0 ∨ j = 1 ∨ j = 2 ∨ j = 3 ∨ j = 4 ∨ j = 5 ∨ j = 6 ∨ j = 7 ∨ j = 8 ∨ j = 9 ∨ j = 10 ∨ j = 11 ∨ j = 12 ∨ j = 13 ∨ j = 14 ∨ j = 15 ∨ j = 16 ∨ j = 17 := by omega
    rcases h with rfl | rfl | rfl | rfl | rfl | rfl | rfl | rfl | rfl | rfl | rfl | rfl | rfl | rfl | rfl | rfl | rfl | rfl <;> exact ⟨_, rfl⟩
  have KEY := Lib.hid key
  have HB := Lib.hid hb
  clear key hb
  go_enter Try.func70, Try.ntmps70
  go_wp2
  generalize (w.alloc (.cells #[.string ⟨#[97, 115, 115, 101, 114, 116]⟩, .string ⟨#[101, 108, 115, 101]⟩, .string ⟨#[101, 114, 114, 111, 114]⟩, .string ⟨#[102, 97, 108, 115, 101]⟩, .string ⟨#[102, 111, 114]⟩, .string ⟨#[102, 117, 110, 99, 116, 105, 111, 110]⟩, .string ⟨#[105, 102]⟩, .string ⟨#[105, 109, 112, 111, 114, 116]⟩, .string ⟨#[105, 109, 112, 111, 114, 116, 98, 105, 110]⟩, .string ⟨#[105, 109, 112, 111, 114, 116, 115, 116, 114]⟩, .string ⟨#[105, 110]⟩, .string ⟨#[108, 111, 99, 97, 108]⟩, .string ⟨#[110, 117, 108, 108]⟩, .string ⟨#[115, 101, 108, 102]⟩, .string ⟨#[115, 117, 112, 101, 114]⟩, .string ⟨#[116, 97, 105, 108, 115, 116, 114, 105, 99, 116]⟩, .string ⟨#[116, 104, 101, 110]⟩, .string ⟨#[116, 114, 117, 101]⟩] 9)) = W at *
  go_loop [4] (fun t => ∃ j : Nat, j ≤ 18 ∧ t = .int .i64 j) (fun t => 18 - (intOf t).toNat)
  case atStart => exact ⟨0, by omega, rfl⟩
  case round =>
    obtain ⟨j, hj, rfl⟩ := hrel
    by_cases hlt : j < 18
    · obtain ⟨x, hx⟩ := KEY.out j hlt
      by_cases he : x = s
      · have q : (x.toList == s.toList) = true := by rw [str_beq]; exact decide_eq_true he
        clear he
        go_wp2_with fail
        go_ret
        exact ⟨⟨_, rfl⟩, HB.out⟩
      · have q : (x.toList == s.toList) = false := by rw [str_beq]; exact decide_eq_false he
        clear he
        go_wp2_with fail
        go_round
        case rel => exact ⟨j + 1, by omega, by go_num⟩
        case measure => simp [intOf]; omega
    · obtain rfl : j = 18 := by omega
      go_wp2_with fail
      go_ret
      exact ⟨⟨_, rfl⟩, HB.out⟩

theorem identifier_any (s : ByteArray) (hs : s.size ≤ 9223372036854775807) (w : World) : Calls Try.prog 54 #[.string s] w (SomeBN w) := by
  go_enter Try.func54, Try.ntmps54
  go_wp2_with fail
  refine (word_any s hs _).mono ?_
  rintro e w' ⟨⟨b, rfl⟩, rfl⟩
  cases b
  · go_wp2_with fail
    go_ret
    exact ⟨⟨_, rfl⟩, Below.refl _ _⟩
  · go_wp2_with fail
    refine (keyword_any s _).mono ?_
    rintro e w1 ⟨⟨b, rfl⟩, hb⟩
    have HB := Lib.hid hb
    clear hb
    go_wp2_with fail
    go_ret
    exact ⟨⟨_, rfl⟩, HB.out⟩

theorem below_drewN {B : Nat} {a w : World} (h : Below B a w) (n : Nat) : Below B a (w.drewN n) := ⟨h.os, h.tape, h.output, h.size, h.block⟩
def ApPost (ss : List ByteArray) (w : World) (e : Ending) (w' : World) : Prop := (∃ b, e = .returned (.bool b) ∧ (b = true → ss.length ≤ 100 ∧ ss.Nodup)) ∧ Below w.heap.size w w'
set_option maxRecDepth 100000 in
set_option maxHeartbeats 1600000 in
theorem apart_any (A : Option Addr) (n c : Nat) (ss : List ByteArray) (B : Nat) (w : World) (h : Strs w B A n ss) (hB : B ≤ w.heap.size) (hn : n ≤ 9223372036854775807) (hs : ∀ s ∈ ss, s.size ≤ maxLen) :
    Calls Try.prog 41 #[.slice A n c] w (ApPost ss w) := by
  have HH := Lib.hid h
  have HL := Lib.hid h.len
  have HS := Lib.hid hs
  clear h hs
  by_cases hbig : 100 < n
  · go_enter Try.func41, Try.ntmps41
    go_wp2_with fail
    go_ret
    exact ⟨⟨_, rfl, fun h => by cases h⟩, Below.refl _ _⟩
  · go_enter Try.func41, Try.ntmps41
    go_wp2_with fail
    go_loopw [3] (fun t wr => ∃ j : Nat, j ≤ n ∧ t = .int .i64 j ∧ Hid (Below w.heap.size w wr) ∧ Hid ((ss.take j).Nodup)) (fun t _ => n - (intOf t).toNat)
    case atStart => exact ⟨0, Nat.zero_le _, rfl, Lib.hid (Below.refl _ _), Lib.hid (by simp)⟩
    case round =>
      obtain ⟨j, hj, rfl, HB, HD⟩ := hrel
      by_cases hlt : j < n
      · obtain ⟨ad, rfl, hb, hc0⟩ := HH.out.at_ hlt
        have hc := (HB.out.cell (p := ad.add j) (by rw [block_of_add]; omega)).trans hc0
        have hjl : j < ss.length := by rw [HL.out]; exact hlt
        have e0 : ss.getD j ByteArray.empty = ss[j] := by simp [hjl]
        rw [e0] at hc
        have hsz := HS.out _ (List.getElem_mem hjl)
        have E1 := Lib.hid (List.take_succ_eq_append_getElem hjl)
        obtain ⟨x, hx⟩ : ∃ x, x = ss[j] := ⟨_, rfl⟩
        rw [← hx] at hc hsz E1
        have HX := Lib.hid hx
        clear hc0 e0 hx
        unfold maxLen at hsz
        by_cases hlong : 100 < x.size
        · go_wp2_with fail
          go_ret
          exact ⟨⟨_, rfl, fun h => (by cases h)⟩, HB.out⟩
        · go_wp2_with fail
          refine (identifier_any x (by omega) _).mono ?_
          rintro e w1 ⟨⟨b, rfl⟩, hb1⟩
          have HB1 := Lib.hid (HB.out.trans (hb1.mono HB.out.size))
          clear hb1
          cases b
          · go_wp2_with fail
            go_ret
            exact ⟨⟨_, rfl, fun h => (by cases h)⟩, HB1.out⟩
          · go_wp2_with fail
            go_loopw [4] (fun t wr => ∃ k : Nat, k ≤ j ∧ t = .int .i64 k ∧ Hid (Below w.heap.size w wr) ∧ Hid (x ∉ ss.take k)) (fun t _ => j - (intOf t).toNat)
            case atStart => exact ⟨0, Nat.zero_le _, rfl, HB1, Lib.hid (by simp)⟩
            case round =>
              obtain ⟨k, hk, rfl, HB2, HM⟩ := hrel
              by_cases hlt2 : k < j
              · have hc2 := (HB2.out.cell (p := ad.add k) (by rw [block_of_add]; omega)).trans (HH.out.cell (show k < n by omega)).2
                have hcj := (HB2.out.cell (p := ad.add j) (by rw [block_of_add]; omega)).trans (HH.out.cell hlt).2
                have hkl : k < ss.length := by rw [HL.out]; omega
                have e1 : ss.getD k ByteArray.empty = ss[k] := by simp [hkl]
                have e2 : ss.getD j ByteArray.empty = x := by rw [HX.out]; simp [hjl]
                rw [e1] at hc2
                rw [e2] at hcj
                have E2 := Lib.hid (List.take_succ_eq_append_getElem hkl)
                clear e1 e2
                generalize ss[k] = y at *
                have i0 : (0 : Int) ≤ (k : Int) := by omega
                have i1 : (k : Int) < (n : Int) := by omega
                have i2 : (0 : Int) ≤ (j : Int) := by omega
                have i3 : (j : Int) < (n : Int) := by omega
                by_cases he : y = x
                · have q : (y.toList == x.toList) = true := by rw [str_beq]; exact decide_eq_true he
                  clear he
                  go_wp2
                  go_quiet (fail)
                  go_wp2
                  go_ret
                  exact ⟨⟨_, rfl, fun h => (by cases h)⟩, by first | exact HB2.out | exact below_drewN HB2.out _⟩
                · have q : (y.toList == x.toList) = false := by rw [str_beq]; exact decide_eq_false he
                  have HE := Lib.hid he
                  clear he
                  go_wp2
                  go_quiet (fail)
                  go_wp2
                  go_roundw
                  case rel => exact ⟨k + 1, by omega, by go_num, Lib.hid (by first | exact HB2.out | exact below_drewN HB2.out _), Lib.hid (by
                    rw [E2.out, List.mem_append, List.mem_singleton]
                    rintro (h | h)
                    · exact HM.out h
                    · exact HE.out h.symm)⟩
                  case measure => simp [intOf]; omega
              · obtain rfl : k = j := by omega
                have hnd := Lib.hid (nodup_snoc HD.out HM.out)
                go_wp2
                go_roundw
                case rel => exact ⟨k + 1, by omega, by go_num, HB2, Lib.hid (by rw [E1.out]; exact hnd.out)⟩
                case measure => simp [intOf]; omega
      · obtain rfl : j = n := by omega
        go_wp2_with fail
        go_ret
        refine ⟨⟨_, rfl, fun _ => ⟨by rw [HL.out]; omega, ?_⟩⟩, HB.out⟩
        have := HD.out
        rw [List.take_of_length_le (by rw [HL.out]; omega)] at this
        exact this

def ClPost (P N : List ByteArray) (pos : Int) (w : World) (e : Ending) (w' : World) : Prop := (∃ b, e = .returned (.bool b) ∧ (b = true → (P.length ≤ 100 ∧ P.Nodup) ∧ (N.length ≤ 100 ∧ N.Nodup) ∧ 0 ≤ pos ∧ pos ≤ 200)) ∧ Below w.heap.size w w'
theorem calls_any (A : Option Addr) (n c : Nat) (P : List ByteArray) (A2 : Option Addr) (n2 c2 : Nat) (N : List ByteArray) (pos : Int) (B : Nat) (w : World) (h : Strs w B A n P) (h2 : Strs w B A2 n2 N) (hB : B ≤ w.heap.size) (hn : n ≤ 9223372036854775807) (hn2 : n2 ≤ 9223372036854775807)
    (hs : ∀ s ∈ P, s.size ≤ maxLen) (hs2 : ∀ s ∈ N, s.size ≤ maxLen) :
    Calls Try.prog 26 #[.slice A n c, .int .i64 pos, .slice A2 n2 c2] w (ClPost P N pos w) := by
  have H2 := Lib.hid h2
  have HS2 := Lib.hid hs2
  have K1 := Lib.hid (apart_any A n c P B w h hB hn hs)
  clear h h2 hs hs2
  go_enter Try.func26, Try.ntmps26
  go_wp2_with fail
  refine K1.out.mono ?_
  rintro e w1 ⟨⟨b, rfl, hx⟩, hb⟩
  have HX := Lib.hid hx
  have HB := Lib.hid hb
  clear hx hb
  cases b
  · go_wp2_with fail
    go_ret
    exact ⟨⟨_, rfl, fun h => (by cases h)⟩, HB.out⟩
  · go_wp2_with fail
    refine (apart_any A2 n2 c2 N B _ (Reads.below H2.out (HB.out.mono hB)) (Nat.le_trans hB HB.out.size) hn2 HS2.out).mono ?_
    rintro e w2 ⟨⟨b, rfl, hx⟩, hb⟩
    have HX2 := Lib.hid hx
    have HB2 := Lib.hid (HB.out.trans (hb.mono HB.out.size))
    clear hx hb
    cases b
    · go_wp2_with fail
      go_ret
      exact ⟨⟨_, rfl, fun h => (by cases h)⟩, HB2.out⟩
    · by_cases h0 : 0 ≤ pos
      · by_cases h1 : pos ≤ 200
        · go_wp2_with fail
          go_ret
          exact ⟨⟨_, rfl, fun _ => ⟨HX.out (by first | rfl | trivial), HX2.out (by first | rfl | trivial), h0, h1⟩⟩, HB2.out⟩
        · have d1 : decide (pos ≤ 200) = false := decide_eq_false h1
          go_wp2_with fail
          go_ret
          refine ⟨⟨_, rfl, fun h => ?_⟩, HB2.out⟩
          cases h
      · go_wp2_with fail
        go_ret
        exact ⟨⟨_, rfl, fun h => (by cases h)⟩, HB2.out⟩
end Go.Proofs.Ythinfliplpjdjaa
