/-
  The plain law of escapes: what the package writes for a text means the text again, by the language and by the package.
-/
import Derived.Test.YtpgmnggicmbacaaGreatDoorEncR
import Derived.Test.YtpgmnggicmbacaaGreatDoorEsP
namespace Go.Proofs.YtpgmnggicmbacaaGreatDoor
open Go.RowKit

theorem enc_at {s : ByteArray} {r p : Nat} (h : Scal r) (hle : p + (enc r).size ≤ s.size) (hb : ∀ k, k < (enc r).size → by_ s (p + k) = ((enc r).data[k]?.getD default).toNat) : PtOk s p r (enc r).size := by
  have hd := enc_data h
  obtain ⟨q, hsz⟩ : ∃ q, s.size = p + (enc r).size + q := ⟨s.size - (p + (enc r).size), by omega⟩
  clear hle
  have h2 := h
  unfold Scal at h2
  have hs : ∀ b : ByteArray, b.size = b.data.size := fun _ => rfl
  rw [hs (enc r)] at hsz hb ⊢
  rw [hd] at hsz hb ⊢
  clear hd hs
  by_cases c1 : r < 128
  · rw [if_pos c1] at hsz hb ⊢
    have b0 := hb 0 (by simp)
    simp only [Nat.add_zero] at b0
    have e0 : by_ s p = r := by rw [b0]; exact u8_nat (by omega)
    have := decode1 (s := s) (i := p) (by simp at hsz; omega) (by omega)
    rw [e0] at this
    exact this
  · rw [if_neg c1] at hsz hb ⊢
    by_cases c2 : r < 2048
    · rw [if_pos c2] at hsz hb ⊢
      have b0 := hb 0 (by simp)
      have b1 := hb 1 (by simp)
      simp only [Nat.add_zero] at b0
      have e0 : by_ s p = 192 + r / 64 := by rw [b0]; exact u8_nat (by omega)
      have e1 : by_ s (p + 1) = 128 + r % 64 := by rw [b1]; exact u8_nat (by omega)
      simp at hsz
      refine decodeN 2 192 128 (.inl ⟨rfl, rfl, rfl, by omega, by omega⟩) (by omega) ?_ r ?_ (by omega) (by omega) h2.2
      · intro j h3 h4
        obtain rfl : j = 1 := by omega
        omega
      · rw [accf2, e0, e1]; omega
    · rw [if_neg c2] at hsz hb ⊢
      by_cases c3 : r < 65536
      · rw [if_pos c3] at hsz hb ⊢
        have b0 := hb 0 (by simp)
        have b1 := hb 1 (by simp)
        have b2 := hb 2 (by simp)
        simp only [Nat.add_zero] at b0
        have e0 : by_ s p = 224 + r / 4096 := by rw [b0]; exact u8_nat (by omega)
        have e1 : by_ s (p + 1) = 128 + r / 64 % 64 := by rw [b1]; exact u8_nat (by omega)
        have e2 : by_ s (p + 2) = 128 + r % 64 := by rw [b2]; exact u8_nat (by omega)
        simp at hsz
        refine decodeN 3 224 2048 (.inr (.inl ⟨rfl, rfl, rfl, by omega, by omega⟩)) (by omega) ?_ r ?_ (by omega) (by omega) h2.2
        · intro j h3 h4
          obtain rfl | rfl : j = 1 ∨ j = 2 := by omega
          · omega
          · omega
        · rw [accf3, e0, e1, e2]; omega
      · rw [if_neg c3] at hsz hb ⊢
        have b0 := hb 0 (by simp)
        have b1 := hb 1 (by simp)
        have b2 := hb 2 (by simp)
        have b3 := hb 3 (by simp)
        simp only [Nat.add_zero] at b0
        have e0 : by_ s p = 240 + r / 262144 := by rw [b0]; exact u8_nat (by omega)
        have e1 : by_ s (p + 1) = 128 + r / 4096 % 64 := by rw [b1]; exact u8_nat (by omega)
        have e2 : by_ s (p + 2) = 128 + r / 64 % 64 := by rw [b2]; exact u8_nat (by omega)
        have e3 : by_ s (p + 3) = 128 + r % 64 := by rw [b3]; exact u8_nat (by omega)
        simp at hsz
        refine decodeN 4 240 65536 (.inr (.inr ⟨rfl, rfl, rfl, by omega, by omega⟩)) (by omega) ?_ r ?_ (by omega) (by omega) h2.2
        · intro j h3 h4
          obtain rfl | rfl | rfl : j = 1 ∨ j = 2 ∨ j = 3 := by omega
          · omega
          · omega
          · omega
        · rw [accf4, e0, e1, e2, e3]; omega


theorem encB_enc {r : Nat} (h : Scal r) : (enc r).data.toList = encB r := by
  rw [enc_data h]
  unfold encB
  repeat' split
  all_goals rfl
theorem u8_nat_eq {a : Int} {b : Nat} (h : a = (b : Int)) : a.toNat.toUInt8 = UInt8.ofNat b := by
  subst h
  rfl
theorem encB_rune {r : Nat} (h : Scal r) : Lib.encodeRune (r : Nat) = encB r := by
  unfold Scal at h
  unfold encB Lib.encodeRune
  by_cases c1 : r < 128
  · rw [if_pos c1, Lib.encodeRuneZ_one (by omega) (by omega)]
    rfl
  by_cases c2 : r < 2048
  · rw [if_neg c1, if_pos c2, Lib.encodeRuneZ_two (by omega) (by omega)]
    simp only [List.map_cons, List.map_nil]
    rw [u8_nat_eq (show (192 : Int) + r / 64 = ((192 + r / 64 : Nat) : Int) by omega), u8_nat_eq (show (128 : Int) + r % 64 = ((128 + r % 64 : Nat) : Int) by omega)]
  by_cases c3 : r < 65536
  · rw [if_neg c1, if_neg c2, if_pos c3, Lib.encodeRuneZ_three (by omega)]
    simp only [List.map_cons, List.map_nil]
    rw [u8_nat_eq (show (224 : Int) + r / 4096 = ((224 + r / 4096 : Nat) : Int) by omega), u8_nat_eq (show (128 : Int) + r / 64 % 64 = ((128 + r / 64 % 64 : Nat) : Int) by omega), u8_nat_eq (show (128 : Int) + r % 64 = ((128 + r % 64 : Nat) : Int) by omega)]
  · rw [if_neg c1, if_neg c2, if_neg c3, Lib.encodeRuneZ_four (by omega) (by omega)]
    simp only [List.map_cons, List.map_nil]
    rw [u8_nat_eq (show (240 : Int) + r / 262144 = ((240 + r / 262144 : Nat) : Int) by omega), u8_nat_eq (show (128 : Int) + r / 4096 % 64 = ((128 + r / 4096 % 64 : Nat) : Int) by omega), u8_nat_eq (show (128 : Int) + r / 64 % 64 = ((128 + r / 64 % 64 : Nat) : Int) by omega), u8_nat_eq (show (128 : Int) + r % 64 = ((128 + r % 64 : Nat) : Int) by omega)]

/-- These bytes stand at a place. -/
def At (E : ByteArray) (p : Nat) (bs : List UInt8) : Prop := p + bs.length ≤ E.size ∧ ∀ k, k < bs.length → by_ E (p + k) = (bs[k]?.getD 0).toNat
theorem at_mid (P bs Q : List UInt8) : At ⟨(P ++ bs ++ Q).toArray⟩ P.length bs := by
  have hs : (⟨(P ++ bs ++ Q).toArray⟩ : ByteArray).size = (P ++ bs ++ Q).length := List.size_toArray
  refine ⟨by rw [hs]; simp, fun k hk => ?_⟩
  rw [by_data]
  show (((P ++ bs ++ Q).toArray)[P.length + k]?.getD default).toNat = _
  rw [List.getElem?_toArray, List.getElem?_append_left (by simp; omega), List.getElem?_append_right (by omega)]
  rw [show P.length + k - P.length = k by omega]
  rfl
theorem At.tail {E : ByteArray} {p : Nat} {b : UInt8} {bs : List UInt8} (h : At E p (b :: bs)) : At E (p + 1) bs := by
  refine ⟨by have := h.1; simp at this; omega, fun k hk => ?_⟩
  have := h.2 (k + 1) (by simp; omega)
  rw [show p + (k + 1) = p + 1 + k by omega] at this
  rw [this]
  simp
theorem At.head {E : ByteArray} {p : Nat} {b : UInt8} {bs : List UInt8} (h : At E p (b :: bs)) : p < E.size ∧ by_ E p = b.toNat := by
  refine ⟨by have := h.1; simp at this; omega, ?_⟩
  have := h.2 0 (by simp)
  simpa using this
theorem size_list (b : ByteArray) : b.data.toList.length = b.size := Array.length_toList
theorem data_get (b : ByteArray) (k : Nat) : b.data.toList[k]? = b.data[k]? := Array.getElem?_toList
theorem At.pt {E : ByteArray} {p r : Nat} (hr : Scal r) (h : At E p (encB r)) : PtOk E p r (encB r).length := by
  have e1 := encB_enc hr
  have e2 : (enc r).size = (encB r).length := by
    rw [← e1, size_list]
  rw [← e2]
  refine enc_at hr (by rw [e2]; exact h.1) fun k hk => ?_
  rw [h.2 k (by omega), ← e1, data_get]
  rfl

theorem runS_step {s : ByteArray} {f i j : Nat} {acc bs : List UInt8} {sure ok : Bool} (hlt : i < s.size) (h : stepS s i = some (j, bs, ok)) : runS s (f + 1) i acc sure = runS s f j (acc ++ bs) (sure && ok) := by
  rw [runS, if_pos hlt, h]
theorem runS_plain {E : ByteArray} {sure : Bool} : ∀ (bs : List UInt8) (p f : Nat) (acc : List UInt8), At E p bs → (∀ b ∈ bs, b ≠ 92) → runS E (bs.length + f) p acc sure = runS E f (p + bs.length) (acc ++ bs) sure
  | [], p, f, acc, _, _ => by simp
  | b :: bs, p, f, acc, h, hn => by
    have hb : by_ E p ≠ 92 := by
      rw [h.head.2]
      intro e
      exact hn b (by simp) (UInt8.toNat_inj.1 e)
    have h1 : stepS E p = some (p + 1, [b], true) := by
      unfold stepS
      rw [if_neg hb, h.head.2]
      simp
    rw [show (b :: bs).length + f = bs.length + f + 1 by simp; omega, runS_step h.head.1 h1, runS_plain bs (p + 1) f _ h.tail (fun x hx => hn x (by simp [hx]))]
    simp only [Bool.and_true, List.append_assoc, List.singleton_append, List.length_cons]
    rw [show p + 1 + bs.length = p + (bs.length + 1) by omega]
/-- One code point that is written is read by the language. -/
theorem hexV_hexD : ∀ d : Fin 16, hexV (hexD d.val).toNat = some d.val := by decide
theorem hx4_at {E : ByteArray} {p r : Nat} (hr : r < 256) (h : At E p [48, 48, hexD (r / 16), hexD (r % 16)]) : hx4 E p = some r := by
  have h0 := h.head.2
  have h1 := h.tail.head.2
  have h2 := h.tail.tail.head.2
  have h3 := h.tail.tail.tail.head.2
  have v2 := hexV_hexD ⟨r / 16, by omega⟩
  have v3 := hexV_hexD ⟨r % 16, by omega⟩
  simp only at v2 v3
  unfold hx4
  rw [if_pos (by have := h.1; simpa using this)]
  have v0 : hexV 48 = some 0 := rfl
  simp only [hxk, Nat.add_zero, h0, h1, show p + 2 = p + 1 + 1 from rfl, show p + 3 = p + 1 + 1 + 1 from rfl, h2, h3, v2, v3, show (48 : UInt8).toNat = 48 from rfl, v0, Option.bind_some, Option.map_some]
  congr 1
  omega
theorem plain_ne {r : Nat} (hs : Scal r) (h : r ≠ 92) : ∀ b ∈ encB r, b ≠ 92 := by
  unfold Scal at hs
  have key : ∀ n, 128 ≤ n → n < 256 → UInt8.ofNat n ≠ 92 := fun n h1 h2 e => by
    have := congrArg UInt8.toNat e
    rw [UInt8.toNat_ofNat'] at this
    have h3 : (92 : UInt8).toNat = 92 := rfl
    omega
  intro b hb
  unfold encB at hb
  repeat' split at hb
  · simp only [List.mem_singleton] at hb
    subst hb
    intro e
    have := congrArg UInt8.toNat e
    rw [UInt8.toNat_ofNat'] at this
    have h3 : (92 : UInt8).toNat = 92 := rfl
    omega
  all_goals
    simp only [List.mem_cons, List.not_mem_nil, or_false] at hb
    rcases hb with rfl | rfl | rfl | rfl
    all_goals exact key _ (by omega) (by omega)
theorem encB_low {r : Nat} (h : r < 128) : encB r = [UInt8.ofNat r] := by
  unfold encB
  rw [if_pos h]
theorem escB_cases (single : Bool) (r : Nat) :
    (∃ c, c < 128 ∧ c ≠ 117 ∧ escS c = some r ∧ r < 128 ∧ escB single r = [92, UInt8.ofNat c]) ∨
    (r < 160 ∧ escB single r = [92, 117, 48, 48, hexD (r / 16), hexD (r % 16)]) ∨
    (r ≠ 92 ∧ escB single r = Lib.encodeRune (r : Nat)) := by
  by_cases h0 : r = 34 ∨ r = 39 ∨ r = 92 ∨ r = 8 ∨ r = 12 ∨ r = 10 ∨ r = 13 ∨ r = 9 ∨ r = 0
  · rcases h0 with rfl | rfl | rfl | rfl | rfl | rfl | rfl | rfl | rfl
    · cases single
      · exact .inl ⟨34, by decide, by decide, rfl, by decide, rfl⟩
      · exact .inr (.inr ⟨by decide, rfl⟩)
    · cases single
      · exact .inr (.inr ⟨by decide, rfl⟩)
      · exact .inl ⟨39, by decide, by decide, rfl, by decide, rfl⟩
    · exact .inl ⟨92, by decide, by decide, rfl, by decide, rfl⟩
    · exact .inl ⟨98, by decide, by decide, rfl, by decide, rfl⟩
    · exact .inl ⟨102, by decide, by decide, rfl, by decide, rfl⟩
    · exact .inl ⟨110, by decide, by decide, rfl, by decide, rfl⟩
    · exact .inl ⟨114, by decide, by decide, rfl, by decide, rfl⟩
    · exact .inl ⟨116, by decide, by decide, rfl, by decide, rfl⟩
    · exact .inr (.inl ⟨by decide, rfl⟩)
  · simp only [not_or] at h0
    obtain ⟨a, b, c, d, e, f, g, i, j⟩ := h0
    by_cases h1 : r < 32 ∨ (127 ≤ r ∧ r ≤ 159)
    · refine .inr (.inl ⟨by omega, ?_⟩)
      unfold escB
      rw [if_neg a, if_neg b, if_neg c, if_neg d, if_neg e, if_neg f, if_neg g, if_neg i, if_neg j, if_pos h1]
    · refine .inr (.inr ⟨c, ?_⟩)
      unfold escB
      rw [if_neg a, if_neg b, if_neg c, if_neg d, if_neg e, if_neg f, if_neg g, if_neg i, if_neg j, if_neg h1]

theorem pieceS {E : ByteArray} {p r f : Nat} {acc : List UInt8} {sure : Bool} (single : Bool) (hr : Scal r) (h : At E p (escB single r)) (hf : E.size ≤ p + f) :
    ∃ f', E.size ≤ p + (escB single r).length + f' ∧ runS E f p acc sure = runS E f' (p + (escB single r).length) (acc ++ encB r) sure := by
  rcases escB_cases single r with ⟨c, c1, c2, c3, c4, e⟩ | ⟨c1, e⟩ | ⟨c1, e⟩
  · rw [e] at h ⊢
    have hl := h.1
    simp only [List.length_cons, List.length_nil] at hl ⊢
    obtain ⟨g, rfl⟩ : ∃ g, f = g + 1 := ⟨f - 1, by omega⟩
    refine ⟨g, by omega, ?_⟩
    have b1 := h.tail.head.2
    rw [u8_nat (by omega)] at b1
    rw [encB_low c4, runS_step h.head.1 (j := p + 2) (bs := [UInt8.ofNat r]) (ok := true) ?_, Bool.and_true]
    unfold stepS
    rw [if_pos (by rw [h.head.2]; rfl), if_neg (by omega), if_neg (by rw [b1]; exact c2), b1, c3]
  · rw [e] at h ⊢
    have hl := h.1
    simp only [List.length_cons, List.length_nil] at hl ⊢
    obtain ⟨g, rfl⟩ : ∃ g, f = g + 1 := ⟨f - 1, by omega⟩
    refine ⟨g, by omega, ?_⟩
    have hx := hx4_at (by omega) h.tail.tail
    have hu : uniF E (p + 2) = some (r, 4) := by
      unfold uniF
      rw [show p + 2 = p + 1 + 1 from rfl, hx]
      simp only
      rw [if_pos (by omega)]
    rw [runS_step h.head.1 (j := p + 6) (bs := encB r) (ok := true) ?_, Bool.and_true]
    unfold stepS
    rw [if_pos (by rw [h.head.2]; rfl), if_neg (by omega), if_pos (by rw [h.tail.head.2]; rfl), hu]
    simp
    omega
  · rw [e] at h ⊢
    rw [encB_rune hr] at h ⊢
    have hl := h.1
    obtain ⟨g, rfl⟩ : ∃ g, f = (encB r).length + g := ⟨f - (encB r).length, by omega⟩
    exact ⟨g, by omega, runS_plain _ _ _ _ h (plain_ne hr c1)⟩
theorem dec_low {E : ByteArray} {p : Nat} (h : p < E.size) (hb : by_ E p < 128) : Utf8.decode E p = (by_ E p, 1) := (decode1 h hb).2.2.1
theorem stepP_esc {E : ByteArray} {p c : Nat} (d0 : Utf8.decode E p = (92, 1)) (hp : p + 1 < E.size) (d1 : Utf8.decode E (p + 1) = (c, 1)) : stepP E p = stepB E (p + 2) c := by
  unfold stepP
  simp only [d0, if_true, d1]
  rw [if_neg (by omega)]
theorem pieceP {E : ByteArray} {p r f : Nat} {acc : List UInt8} (single : Bool) (hr : Scal r) (h : At E p (escB single r)) (hf : E.size ≤ p + f) :
    ∃ f', E.size ≤ p + (escB single r).length + f' ∧ runP E f p acc = runP E f' (p + (escB single r).length) (acc ++ encB r) := by
  rcases escB_cases single r with ⟨c, c1, c2, c3, c4, e⟩ | ⟨c1, e⟩ | ⟨c1, e⟩
  · rw [e] at h ⊢
    have hl := h.1
    simp only [List.length_cons, List.length_nil] at hl ⊢
    obtain ⟨g, rfl⟩ : ∃ g, f = g + 1 := ⟨f - 1, by omega⟩
    refine ⟨g, by omega, ?_⟩
    have b0 := h.head.2
    have b1 := h.tail.head.2
    rw [u8_nat (by omega)] at b1
    have d0 := dec_low h.head.1 (by rw [b0]; decide)
    have d1 := dec_low h.tail.head.1 (by rw [b1]; exact c1)
    rw [b0] at d0
    rw [b1] at d1
    rw [runP_step h.head.1, stepP_esc d0 h.tail.head.1 d1]
    unfold stepB
    rw [if_neg c2, c3]
    show runP E g (p + 1 + 1) (acc ++ Lib.encodeRune (r : Nat)) = _
    rw [encB_rune hr]
  · rw [e] at h ⊢
    have hl := h.1
    simp only [List.length_cons, List.length_nil] at hl ⊢
    obtain ⟨g, rfl⟩ : ∃ g, f = g + 1 := ⟨f - 1, by omega⟩
    refine ⟨g, by omega, ?_⟩
    have hx := hx4_at (by omega) h.tail.tail
    have b0 := h.head.2
    have b1 := h.tail.head.2
    have d0 := dec_low h.head.1 (by rw [b0]; decide)
    have d1 := dec_low h.tail.head.1 (by rw [b1]; decide)
    rw [b0] at d0
    rw [b1] at d1
    rw [runP_step h.head.1, stepP_esc d0 h.tail.head.1 d1]
    unfold stepB
    rw [if_pos (show UInt8.toNat 117 = 117 from rfl), if_neg (by omega)]
    rw [show p + 2 = p + 1 + 1 from rfl, hx]
    show contP E g acc (stepC E (p + 1 + 1) r) = _
    unfold stepC
    rw [if_neg (by omega)]
    show runP E g (p + 1 + 1 + 4) (acc ++ Lib.encodeRune (r : Nat)) = _
    rw [encB_rune hr]
  · rw [e] at h ⊢
    rw [encB_rune hr] at h ⊢
    have hp := h.pt hr
    have hl := h.1
    have hpos := hp.1
    obtain ⟨g, rfl⟩ : ∃ g, f = g + 1 := ⟨f - 1, by omega⟩
    refine ⟨g, by omega, ?_⟩
    rw [runP_step (by omega)]
    unfold stepP
    rw [hp.2.2.1, if_neg c1]
    show runP E g (p + (encB r).length) (acc ++ Lib.encodeRune (r : Nat)) = _
    rw [encB_rune hr]

/-- The bytes of a text of code points; what the package writes for them. -/
def bytesB (l : List Nat) : List UInt8 := l.flatMap encB
def pieces (single : Bool) (l : List Nat) : List UInt8 := l.flatMap (escB single)
theorem runs_on (single : Bool) {E : ByteArray} : ∀ (l2 l1 : List Nat) (f : Nat) (acc : List UInt8) (sure : Bool), (∀ r ∈ l2, Scal r) → E = ⟨(pieces single (l1 ++ l2)).toArray⟩ → E.size ≤ (pieces single l1).length + f →
    runS E f (pieces single l1).length acc sure = (some (acc ++ bytesB l2), sure) ∧ runP E f (pieces single l1).length acc = some (acc ++ bytesB l2)
  | [], l1, f, acc, sure, _, hE, _ => by
    have hs : E.size = (pieces single l1).length := by rw [hE, List.append_nil]; exact List.size_toArray
    constructor
    · cases f with
      | zero => simp [runS, bytesB]
      | succ f => rw [runS, if_neg (by omega)]; simp [bytesB]
    · cases f with
      | zero => simp [runP, bytesB]
      | succ f => rw [runP, if_neg (by omega)]; simp [bytesB]
  | r :: l2, l1, f, acc, sure, hs, hE, hf => by
    have e1 : l1 ++ r :: l2 = (l1 ++ [r]) ++ l2 := by simp
    have e2 : (pieces single (l1 ++ [r])).length = (pieces single l1).length + (escB single r).length := by simp [pieces]
    have hat : At E (pieces single l1).length (escB single r) := by
      have := at_mid (pieces single l1) (escB single r) (pieces single l2)
      rw [hE]
      have e3 : pieces single (l1 ++ r :: l2) = pieces single l1 ++ escB single r ++ pieces single l2 := by simp [pieces]
      rw [e3]
      exact this
    have hE2 : E = ⟨(pieces single ((l1 ++ [r]) ++ l2)).toArray⟩ := by rw [hE, e1]
    have hr := hs r (by simp)
    constructor
    · obtain ⟨g, g1, g2⟩ := pieceS (acc := acc) (sure := sure) single hr hat hf
      rw [g2, ← e2]
      have := (runs_on single l2 (l1 ++ [r]) g (acc ++ encB r) sure (fun x hx => hs x (by simp [hx])) hE2 (by rw [e2]; exact g1)).1
      rw [this]
      simp [bytesB]
    · obtain ⟨g, g1, g2⟩ := pieceP (acc := acc) single hr hat hf
      rw [g2, ← e2]
      have := (runs_on single l2 (l1 ++ [r]) g (acc ++ encB r) sure (fun x hx => hs x (by simp [hx])) hE2 (by rw [e2]; exact g1)).2
      rw [this]
      simp [bytesB]
/-- A text has the bytes of its code points. -/
theorem pts_bytes {s : ByteArray} {i : Nat} {l : List Nat} (h : Pts s i l) : i ≤ s.size ∧ (∀ r ∈ l, Scal r) ∧ (s.extract 0 i).data.toList = bytesB l := by
  induction h with
  | nil => exact ⟨Nat.zero_le _, (fun _ h => absurd h List.not_mem_nil), by simp [bytesB]⟩
  | snoc h hp ih =>
    rename_i i r n l
    obtain ⟨h1, h2, h3⟩ := ih
    obtain ⟨e1, e2⟩ := pt_enc hp
    have hn := hp.2.1
    refine ⟨hn, (fun x hx => by
      rw [List.mem_append, List.mem_singleton] at hx
      rcases hx with hx | rfl
      · exact h2 x hx
      · exact e2), ?_⟩
    have e3 : s.extract 0 (i + n) = s.extract 0 i ++ s.extract i (i + n) := by
      rw [ByteArray.extract_append_extract, show min 0 i = 0 by omega, show max i (i + n) = i + n by omega]
    rw [e3, e1, ByteArray.data_append, Array.toList_append, h3, encB_enc e2]
    simp [bytesB]
theorem pts_all {s : ByteArray} {l : List Nat} (h : Pts s s.size l) : (∀ r ∈ l, Scal r) ∧ s.data.toList = bytesB l := by
  obtain ⟨-, h2, h3⟩ := pts_bytes h
  rw [ByteArray.extract_zero_size] at h3
  exact ⟨h2, h3⟩
/-- What the package writes for a text. -/
theorem runE_upto (single : Bool) {s : ByteArray} {i : Nat} {l : List Nat} (h : Pts s i l) : ∃ f, s.size ≤ i + f ∧ runE s single s.size 0 [] = runE s single f i (pieces single l) := by
  induction h with
  | nil => exact ⟨s.size, by omega, by simp [pieces]⟩
  | snoc h hp ih =>
    rename_i i r n l
    obtain ⟨f, h1, h2⟩ := ih
    have hn := hp.2.1
    have hp1 := hp.1
    obtain ⟨g, rfl⟩ : ∃ g, f = g + 1 := ⟨f - 1, by omega⟩
    refine ⟨g, by omega, ?_⟩
    rw [h2, runE, if_pos (by omega), hp.2.2.1]
    simp [pieces]
theorem runE_all (single : Bool) {s : ByteArray} {l : List Nat} (h : Pts s s.size l) : runE s single s.size 0 [] = pieces single l := by
  obtain ⟨f, -, h2⟩ := runE_upto single h
  rw [h2]
  cases f with
  | zero => rfl
  | succ f => rw [runE, if_neg (by omega)]
/-- The law. -/
theorem back_law (single : Bool) {s E : ByteArray} {l : List Nat} (h : Pts s s.size l) (hE : E = ⟨(runE s single s.size 0 []).toArray⟩) :
    runS E E.size 0 [] true = (some s.data.toList, true) ∧ runP E E.size 0 [] = some s.data.toList := by
  obtain ⟨h1, h2⟩ := pts_all h
  rw [runE_all single h] at hE
  have := runs_on single (E := E) l [] E.size [] true h1 (by simpa using hE) (by omega)
  rw [h2]
  simpa [pieces] using this
end Go.Proofs.YtpgmnggicmbacaaGreatDoor
