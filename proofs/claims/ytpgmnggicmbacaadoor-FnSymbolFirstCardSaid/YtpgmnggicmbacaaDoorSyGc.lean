/-
  FnSymbolFirst: joined texts: SyOp, SyBlk, SyBlk2, SyTail, SyStart, SyRun, SyLaw.
-/
import Derived.Test.YtpgmnggicmbacaaDoorWords
import Derived.Test.YtpgmnggicmbacaaDoorSyGa
import Derived.Test.YtpgmnggicmbacaaDoorSyGb
namespace Go.Proofs.YtpgmnggicmbacaaDoor
set_option linter.unusedVariables false
set_option linter.unusedSimpArgs false

/-- The first place from one on at which a test fails. -/
def Stop (go : Nat → Bool) (t : Nat) : Prop := 1 ≤ t ∧ (∀ i, 1 ≤ i → i < t → go i = true) ∧ go t = false
theorem Stop.uniq {go : Nat → Bool} {t u : Nat} (h : Stop go t) (k : Stop go u) : t = u := by
  obtain ⟨h1, h2, h3⟩ := h
  obtain ⟨k1, k2, k3⟩ := k
  rcases Nat.lt_trichotomy t u with g | g | g
  · have := k2 t h1 g; rw [h3] at this; cases this
  · exact g
  · have := h2 u k1 g; rw [k3] at this; cases this
def opB (c : Nat) : Bool := [33, 36, 58, 126, 43, 45, 38, 124, 94, 61, 60, 62, 42, 47, 37].contains c
def windB (c : Nat) : Bool := [43, 45, 126, 33, 36].contains c
def two (b : Nat → Nat) (n i x y : Nat) : Bool := decide (i + 2 ≤ n) && b i == x && b (i + 1) == y
def bars (b : Nat → Nat) (n i : Nat) : Bool := decide (i + 3 ≤ n) && b i == 124 && b (i + 1) == 124 && b (i + 2) == 124
/-- The language goes on; the package goes on. -/
def goS (b : Nat → Nat) (n i : Nat) : Bool := decide (i < n) && opB (b i) && !two b n i 47 47 && !two b n i 47 42 && !bars b n i
def goI (b : Nat → Nat) (n i : Nat) : Bool := decide (i < n) && opB (b i) && !(b i == 47) && !(two b n i 124 124)
/-- What makes an operator unsure ahead of the winding back. -/
def odd1 (b : Nat → Nat) (t i : Nat) : Bool := b i == 47 || b i == 124 && decide (i + 1 < t) && b (i + 1) == 124
theorem stop_same {b : Nat → Nat} {n t : Nat} (h : Stop (goS b n) t) (hs : ∀ i, 1 ≤ i → i < t → odd1 b t i = false) : Stop (goI b n) t := by
  obtain ⟨h1, h2, h3⟩ := h
  refine ⟨h1, fun i hi hit => ?_, ?_⟩
  · have g := h2 i hi hit
    have o := hs i hi hit
    unfold goS at g
    unfold odd1 at o
    unfold goI
    simp only [Bool.and_eq_true, Bool.not_eq_true', decide_eq_true_eq] at g ⊢
    simp only [Bool.or_eq_false_iff, Bool.and_eq_false_iff] at o
    obtain ⟨⟨⟨⟨g1, g2⟩, g3⟩, g4⟩, g5⟩ := g
    refine ⟨⟨⟨g1, g2⟩, o.1⟩, ?_⟩
    cases ht : two b n i 124 124
    · rfl
    · exfalso
      unfold two at ht
      simp only [Bool.and_eq_true, decide_eq_true_eq, beq_iff_eq] at ht
      obtain ⟨⟨a1, a2⟩, a3⟩ := ht
      rcases o.2 with (o2 | o2) | o2
      · simp [a2] at o2
      · have hle : i + 1 = t := by
          have : ¬ i + 1 < t := by simpa using o2
          omega
        rw [hle] at a3
        have h3' := h3
        unfold goS at h3'
        have hn : t < n := by omega
        have hop : opB (b t) = true := by rw [a3]; rfl
        have t1 : two b n t 47 47 = false := by unfold two; simp [a3]
        have t2 : two b n t 47 42 = false := by unfold two; simp [a3]
        simp only [hn, decide_true, hop, t1, t2, Bool.not_false, Bool.and_true, Bool.true_and, Bool.not_eq_false'] at h3'
        unfold bars at h3' g5
        simp only [Bool.and_eq_true, decide_eq_true_eq, beq_iff_eq] at h3'
        obtain ⟨⟨⟨c1, c2⟩, c3⟩, c4⟩ := h3'
        have e1 : b (i + 1) = 124 := by rw [hle]; exact a3
        have e2 : b (i + 2) = 124 := by rw [show i + 2 = t + 1 by omega]; exact c3
        simp [a2, e1, e2] at g5
        omega
      · simp [a3] at o2
  · unfold goS at h3
    unfold goI
    cases hn : decide (t < n)
    · simp
    · cases hop : opB (b t)
      · simp
      · simp only [hn, hop, Bool.true_and, Bool.and_eq_false_iff, Bool.not_eq_false'] at h3
        simp only [Bool.true_and, Bool.and_eq_false_iff, Bool.not_eq_false']
        rcases h3 with (h3 | h3) | h3
        · left
          unfold two at h3
          simp only [Bool.and_eq_true] at h3
          exact h3.1.2
        · left
          unfold two at h3
          simp only [Bool.and_eq_true] at h3
          exact h3.1.2
        · right
          unfold bars at h3
          unfold two
          simp only [Bool.and_eq_true, decide_eq_true_eq] at h3 ⊢
          exact ⟨⟨by omega, h3.1.1.2⟩, h3.1.2⟩
/-- Where the language ends an operator: wound back while its last byte is one of some. -/
def Wound (b : Nat → Nat) (all t : Nat) : Prop := 1 ≤ t ∧ t ≤ all ∧ (∀ i, t ≤ i → i < all → windB (b i) = true) ∧ (t = 1 ∨ windB (b (t - 1)) = false)
/-- Where the package ends it. -/
def woundI (b : Nat → Nat) (all : Nat) : Nat := if windB (b (all - 1)) then 1 else all
theorem wound_same {b : Nat → Nat} {all t : Nat} (h : Wound b all t) (hs : t = all ∨ t = 1) : woundI b all = t := by
  obtain ⟨h1, h2, h3, h4⟩ := h
  unfold woundI
  rcases hs with rfl | rfl
  · rcases h4 with rfl | h4
    · split <;> rfl
    · rw [if_neg (by rw [h4]; simp)]
  · rcases Nat.lt_or_ge 1 all with hl | hl
    · rw [if_pos (h3 (all - 1) (by omega) (by omega))]
    · have : all = 1 := by omega
      subst this
      split <;> rfl
end Go.Proofs.YtpgmnggicmbacaaDoor
namespace Go.Proofs.YtpgmnggicmbacaaDoor
set_option linter.unusedVariables false
set_option linter.unusedSimpArgs false

/-- The margin stands at a place, too. -/
def StM (b : Nat → Nat) (n p0 m a : Nat) : Prop := a + m ≤ n ∧ ∀ k, k < m → b (a + k) = b (p0 + k)
def Nl (b : Nat → Nat) (n a : Nat) : Prop := a < n ∧ b a = 10
/-- The line that begins at a place ends at another one. -/
def LineEnd (b : Nat → Nat) (n a e : Nat) : Prop := a ≤ e ∧ e < n ∧ b e = 10 ∧ ∀ i, a ≤ i → i < e → b i ≠ 10
def bytesAt (b : Nat → Nat) (a k : Nat) : List UInt8 := (List.range k).map fun i => UInt8.ofNat (b (a + i))
theorem bytesAt_snoc (b : Nat → Nat) (a k : Nat) : bytesAt b a (k + 1) = bytesAt b a k ++ [UInt8.ofNat (b (a + k))] := by
  unfold bytesAt
  rw [List.range_succ, List.map_append]
  rfl
theorem bytesAt_zero (b : Nat → Nat) (a : Nat) : bytesAt b a 0 = [] := rfl
theorem lineEnd_uniq {b : Nat → Nat} {n a e f : Nat} (h : LineEnd b n a e) (k : LineEnd b n a f) : e = f := by
  obtain ⟨h1, h2, h3, h4⟩ := h
  obtain ⟨k1, k2, k3, k4⟩ := k
  rcases Nat.lt_trichotomy e f with g | g | g
  · exact absurd h3 (k4 e h1 g)
  · exact g
  · exact absurd k3 (h4 f k1 g)
/-- One line is read. -/
inductive Step (b : Nat → Nat) (n p0 m : Nat) : Nat → List UInt8 → Nat → List UInt8 → Prop
  | nl {a : Nat} {v : List UInt8} (h : Nl b n a) : Step b n p0 m a v (a + 1) (v ++ [10])
  | line {a e : Nat} {v : List UInt8} (h : ¬ Nl b n a) (hm : StM b n p0 m a) (he : LineEnd b n (a + m) e) : Step b n p0 m a v (e + 1) (v ++ bytesAt b (a + m) (e - (a + m)) ++ [10])
theorem Step.det {b : Nat → Nat} {n p0 m a a1 a2 : Nat} {v v1 v2 : List UInt8} (h : Step b n p0 m a v a1 v1) (k : Step b n p0 m a v a2 v2) : a1 = a2 ∧ v1 = v2 := by
  cases h with
  | nl h =>
    cases k with
    | nl k => exact ⟨rfl, rfl⟩
    | line k hm he => exact absurd h k
  | line h hm he =>
    cases k with
    | nl k => exact absurd k h
    | line k hm2 he2 =>
      have := lineEnd_uniq he he2
      subst this
      exact ⟨rfl, rfl⟩
/-- Lines are read one behind the other. -/
inductive Run (b : Nat → Nat) (n p0 m : Nat) (a0 : Nat) (v0 : List UInt8) : Nat → List UInt8 → Prop
  | refl : Run b n p0 m a0 v0 a0 v0
  | tail {a a' : Nat} {v v' : List UInt8} (h : Run b n p0 m a0 v0 a v) (s : Step b n p0 m a v a' v') : Run b n p0 m a0 v0 a' v'
theorem Run.head {b : Nat → Nat} {n p0 m a a1 a2 : Nat} {v v1 v2 : List UInt8} (s : Step b n p0 m a v a1 v1) (h : Run b n p0 m a1 v1 a2 v2) : Run b n p0 m a v a2 v2 := by
  induction h with
  | refl => exact .tail .refl s
  | tail _ s2 ih => exact .tail ih s2
/-- Behind a first step, or none. -/
theorem Run.cases_head {b : Nat → Nat} {n p0 m a a2 : Nat} {v v2 : List UInt8} (h : Run b n p0 m a v a2 v2) : (a2 = a ∧ v2 = v) ∨ ∃ a1 v1, Step b n p0 m a v a1 v1 ∧ Run b n p0 m a1 v1 a2 v2 := by
  induction h with
  | refl => exact .inl ⟨rfl, rfl⟩
  | tail h s ih =>
    rcases ih with ⟨rfl, rfl⟩ | ⟨a1, v1, s1, r1⟩
    · exact .inr ⟨_, _, s, .refl⟩
    · exact .inr ⟨a1, v1, s1, .tail r1 s⟩
def Halt (b : Nat → Nat) (n p0 m a : Nat) : Prop := ¬ Nl b n a ∧ (StM b n p0 m a → ∀ e, ¬ LineEnd b n (a + m) e)
theorem Halt.no {b : Nat → Nat} {n p0 m a a' : Nat} {v v' : List UInt8} (h : Halt b n p0 m a) : ¬ Step b n p0 m a v a' v' := fun s => by
  cases s with
  | nl g => exact h.1 g
  | line g hm he => exact h.2 hm _ he
theorem run_uniq {b : Nat → Nat} {n p0 m a a1 a2 : Nat} {v v1 v2 : List UInt8} (h : Run b n p0 m a v a1 v1) (k : Run b n p0 m a v a2 v2) (h1 : Halt b n p0 m a1) (h2 : Halt b n p0 m a2) : a1 = a2 ∧ v1 = v2 := by
  have key : ∀ {a2 v2}, Run b n p0 m a v a2 v2 → (∃ a3 v3, Run b n p0 m a2 v2 a3 v3 ∧ a3 = a1 ∧ v3 = v1) := by
    intro a2 v2 k
    induction k with
    | refl => exact ⟨a1, v1, h, rfl, rfl⟩
    | tail k s ih =>
      obtain ⟨a3, v3, r, rfl, rfl⟩ := ih
      rcases r.cases_head with ⟨rfl, rfl⟩ | ⟨a4, v4, s4, r4⟩
      · exact absurd s h1.no
      · obtain ⟨rfl, rfl⟩ := s.det s4
        exact ⟨_, _, r4, rfl, rfl⟩
  obtain ⟨a3, v3, r, rfl, rfl⟩ := key k
  rcases r.cases_head with ⟨rfl, rfl⟩ | ⟨a4, v4, s4, r4⟩
  · exact ⟨rfl, rfl⟩
  · exact absurd s4 h2.no
end Go.Proofs.YtpgmnggicmbacaaDoor
namespace Go.Proofs.YtpgmnggicmbacaaDoor
set_option linter.unusedVariables false
set_option linter.unusedSimpArgs false

def hdB (c : Nat) : Bool := c == 32 || c == 9 || c == 13
def wsB (c : Nat) : Bool := c == 32 || c == 9
/-- From a place on, bytes of a kind up to another place, where one of another kind, or the end, stands. -/
def Upto (p : Nat → Bool) (b : Nat → Nat) (n a e : Nat) : Prop := a ≤ e ∧ e ≤ n ∧ (∀ i, a ≤ i → i < e → p (b i) = true) ∧ (e < n → p (b e) = false)
theorem upto_uniq {p : Nat → Bool} {b : Nat → Nat} {n a e f : Nat} (h : Upto p b n a e) (k : Upto p b n a f) : e = f := by
  obtain ⟨h1, h2, h3, h4⟩ := h
  obtain ⟨k1, k2, k3, k4⟩ := k
  rcases Nat.lt_trichotomy e f with g | g | g
  · have h5 := h4 (by omega)
    rw [k3 e h1 g] at h5
    cases h5
  · exact g
  · have k5 := k4 (by omega)
    rw [h3 f k1 g] at k5
    cases k5
def nlB (c : Nat) : Bool := c == 10
/-- The first line's beginning, the margin's width: the head of a text block. -/
structure Head (b : Nat → Nat) (n p1 p0 m : Nat) : Prop where
  one : Upto hdB b n 3 p1
  nl : Nl b n p1
  two : Upto nlB b n (p1 + 1) p0
  mar : Upto wsB b n p0 (p0 + m)
theorem Head.uniq {b : Nat → Nat} {n p1 p0 m q1 q0 k : Nat} (h : Head b n p1 p0 m) (g : Head b n q1 q0 k) : p1 = q1 ∧ p0 = q0 ∧ m = k := by
  have e1 := upto_uniq h.one g.one
  subst e1
  have e2 := upto_uniq h.two g.two
  subst e2
  have e3 := upto_uniq h.mar g.mar
  exact ⟨rfl, rfl, by omega⟩
def blanks0 (p1 p0 : Nat) : List UInt8 := List.replicate (p0 - (p1 + 1)) 10
/-- The text begins with a text block of a value. -/
def BlockOk (b : Nat → Nat) (n : Nat) (v : List UInt8) : Prop :=
  ∃ p1 p0 m a z, Head b n p1 p0 m ∧ 1 ≤ m ∧ Run b n p0 m p0 (blanks0 p1 p0) a v ∧ ¬ Nl b n a ∧ ¬ StM b n p0 m a ∧ Upto wsB b n a z ∧ bars b n z = true
theorem fin_halt {b : Nat → Nat} {n p0 m a : Nat} (h1 : ¬ Nl b n a) (h2 : ¬ StM b n p0 m a) : Halt b n p0 m a := ⟨h1, fun h => absurd h h2⟩
theorem BlockOk.uniq {b : Nat → Nat} {n : Nat} {v u : List UInt8} (h : BlockOk b n v) (k : BlockOk b n u) : v = u := by
  obtain ⟨p1, p0, m, a, z, h1, h2, h3, h4, h5, h6, h7⟩ := h
  obtain ⟨q1, q0, l, c, y, k1, k2, k3, k4, k5, k6, k7⟩ := k
  obtain ⟨rfl, rfl, rfl⟩ := h1.uniq k1
  exact (run_uniq h3 k3 (fin_halt h4 h5) (fin_halt k4 k5)).2
theorem bad_head {b : Nat → Nat} {n p1 : Nat} (h : Upto hdB b n 3 p1) (hn : ¬ Nl b n p1) (v : List UInt8) : ¬ BlockOk b n v := by
  rintro ⟨q1, q0, l, c, y, k1, -⟩
  have := upto_uniq h k1.one
  subst this
  exact hn k1.nl
theorem bad_margin {b : Nat → Nat} {n p1 p0 : Nat} (h : Head b n p1 p0 0) (v : List UInt8) : ¬ BlockOk b n v := by
  rintro ⟨q1, q0, l, c, y, k1, k2, -⟩
  have := (h.uniq k1).2.2
  omega
theorem bad_eof {b : Nat → Nat} {n p1 p0 m a : Nat} {u : List UInt8} (h : Head b n p1 p0 m) (hr : Run b n p0 m p0 (blanks0 p1 p0) a u) (h1 : ¬ Nl b n a) (h2 : StM b n p0 m a) (h3 : ∀ e, ¬ LineEnd b n (a + m) e) (v : List UInt8) : ¬ BlockOk b n v := by
  rintro ⟨q1, q0, l, c, y, k1, k2, k3, k4, k5, k6, k7⟩
  obtain ⟨rfl, rfl, rfl⟩ := h.uniq k1
  obtain ⟨rfl, rfl⟩ := run_uniq hr k3 ⟨h1, fun _ => h3⟩ (fin_halt k4 k5)
  exact k5 h2
theorem bad_end {b : Nat → Nat} {n p1 p0 m a z : Nat} {u : List UInt8} (h : Head b n p1 p0 m) (hr : Run b n p0 m p0 (blanks0 p1 p0) a u) (h1 : ¬ Nl b n a) (h2 : ¬ StM b n p0 m a) (h3 : Upto wsB b n a z) (h4 : bars b n z = false) (v : List UInt8) : ¬ BlockOk b n v := by
  rintro ⟨q1, q0, l, c, y, k1, k2, k3, k4, k5, k6, k7⟩
  obtain ⟨rfl, rfl, rfl⟩ := h.uniq k1
  obtain ⟨rfl, rfl⟩ := run_uniq hr k3 (fin_halt h1 h2) (fin_halt k4 k5)
  have := upto_uniq h3 k6
  subst this
  rw [h4] at k7
  cases k7
/-- The first line begins with the margin. -/
theorem Head.first {b : Nat → Nat} {n p1 p0 m : Nat} (h : Head b n p1 p0 m) (hm : 1 ≤ m) : StM b n p0 m p0 ∧ ¬ Nl b n p0 := by
  obtain ⟨h1, h2, h3, h4⟩ := h.mar
  refine ⟨⟨h2, fun k hk => rfl⟩, fun hn => ?_⟩
  have := h3 p0 (Nat.le_refl _) (by omega)
  rw [hn.2] at this
  cases this
end Go.Proofs.YtpgmnggicmbacaaDoor
namespace Go.Proofs.YtpgmnggicmbacaaDoor
open Go.Shelf Go.RowKit
set_option linter.unusedVariables false
set_option linter.unusedSimpArgs false

theorem byN {s : ByteArray} {i : Nat} (h : i < s.size) : byteN s i = by_ s i := by
  unfold byteN by_
  rw [dif_pos h]
  show _ = (s.get! i).toNat
  have : s.get! i = s[i]'h := by
    show s.data[i]! = s.data[i]
    exact getElem!_pos s.data i h
  rw [this]
theorem pt_bytes {s : ByteArray} {i r n : Nat} (h : PtOk s i r n) : bytesAt (by_ s) i n = Lib.encodeRune (r : Nat) := by
  obtain ⟨h1, h2⟩ := pt_enc h
  rw [encB_rune h2, ← encB_enc h2, ← h1, cut_list s i n h.2.1]
  rfl
theorem pt_no10 {s : ByteArray} {i r n : Nat} (h : PtOk s i r n) (hr : r ≠ 10) : ∀ j, j < n → by_ s (i + j) ≠ 10 := by
  intro j hj he
  obtain ⟨h1, h2, h3⟩ := pt_at h
  have h4 := h3.2 j (by omega)
  rw [he] at h4
  rcases Nat.lt_or_ge r 128 with hl | hl
  · rw [encB_low hl] at h4 h2
    have hj0 : j = 0 := by simp at h2; omega
    subst hj0
    simp [u8_nat (show r < 256 by omega)] at h4
    omega
  · have h5 : j < (encB r).length := by omega
    have hx := encB_high h1 hl j _ (List.getElem?_eq_getElem h5)
    rw [List.getElem?_eq_getElem h5] at h4
    simp only [Option.getD_some] at h4
    omega
/-- A rune below 128 is its byte. -/
theorem peek_by {s : ByteArray} {pos : Nat} (h : pos < s.size) (hb : by_ s pos < 128) : peekR s pos = (by_ s pos : Int) ∧ nextP s pos = pos + 1 := by
  rw [← byN h] at hb ⊢
  obtain ⟨h1, h2⟩ := peek_low h hb
  refine ⟨h1, ?_⟩
  unfold nextP
  rw [if_pos h, h2]
theorem peek_hi {s : ByteArray} {pos : Nat} (h : pos < s.size) (hb : 128 ≤ by_ s pos) : 128 ≤ peekR s pos := by
  rw [← byN h] at hb
  exact peek_high h hb
theorem peek_is {s : ByteArray} {pos c : Nat} (hc : c < 128) : peekR s pos = (c : Int) ↔ pos < s.size ∧ by_ s pos = c := by
  by_cases h : pos < s.size
  · by_cases hb : by_ s pos < 128
    · rw [(peek_by h hb).1]
      constructor
      · intro e; exact ⟨h, by omega⟩
      · rintro ⟨-, e⟩; omega
    · have := peek_hi h (by omega)
      constructor
      · intro e; omega
      · rintro ⟨-, e⟩; omega
  · unfold peekR
    rw [if_neg h]
    constructor
    · intro e; omega
    · rintro ⟨e, -⟩; exact absurd e h
/-- What stands while a line is read. -/
def LnI (s : ByteArray) (a pos : Nat) (v0 v : List UInt8) : Prop := Tail s 0 → Tail s pos ∧ a ≤ pos ∧ v = v0 ++ bytesAt (by_ s) a (pos - a) ∧ ∀ i, a ≤ i → i < pos → by_ s i ≠ 10
theorem bytesAt_add (b : Nat → Nat) (a k l : Nat) : bytesAt b a (k + l) = bytesAt b a k ++ bytesAt b (a + k) l := by
  induction l with
  | zero => rw [Nat.add_zero, bytesAt_zero, List.append_nil]
  | succ l ih => rw [← Nat.add_assoc, bytesAt_snoc, ih, List.append_assoc, bytesAt_snoc, Nat.add_assoc]
theorem lnI_step {s : ByteArray} {a pos : Nat} {v0 v : List UInt8} (h : LnI s a pos v0 v) (hp : pos < s.size) (hr : peekR s pos ≠ 10) : LnI s a (nextP s pos) v0 (v ++ Lib.encodeRune (peekR s pos)) := by
  intro ht
  obtain ⟨h1, h2, h3, h4⟩ := h ht
  obtain ⟨r, n, hpt, ht2⟩ := h1.step hp
  have hd := hpt.2.2.1
  have hpk : peekR s pos = (r : Int) := by unfold peekR; rw [if_pos hp, hd]
  have hnx : nextP s pos = pos + n := by unfold nextP; rw [if_pos hp, hd]
  rw [hpk] at hr ⊢
  rw [hnx]
  refine ⟨ht2, by omega, ?_, fun i hi hlt => ?_⟩
  · rw [h3, List.append_assoc, show pos + n - a = (pos - a) + n by omega, bytesAt_add, show a + (pos - a) = pos by omega, pt_bytes hpt]
  · rcases Nat.lt_or_ge i pos with g | g
    · exact h4 i hi g
    · have := pt_no10 hpt (by omega) (i - pos) (by omega)
      rwa [show pos + (i - pos) = i by omega] at this
end Go.Proofs.YtpgmnggicmbacaaDoor
namespace Go.Proofs.YtpgmnggicmbacaaDoor
open Go.RowKit
set_option linter.unusedVariables false
set_option linter.unusedSimpArgs false

/-- A text stands at a place. -/
def stG (s t : ByteArray) (i : Nat) : Bool := decide (i + t.size ≤ s.size) && ((s.extract i (i + t.size)).toList == t.toList)
set_option maxRecDepth 100000 in
theorem startsG (s t : ByteArray) (i : Nat) (_hs : s.size ≤ 1000000000) (ht : t.size ≤ 1000000000) (hi : i ≤ 2000000000) (w : World) :
    Calls Tryd.prog 42 #[.string s, .int .i64 i, .string t] w fun e w' => e = .returned (.bool (stG s t i)) ∧ w = w' := by
  have wr1 : IntKind.i64.wrap ((i : Int) + (t.size : Int)) = (i : Int) + (t.size : Int) := IntWalk.i64_in _ (by omega)
  by_cases h : i + t.size ≤ s.size
  · have z0 : (i : Int) + (t.size : Int) ≤ (s.size : Int) := by omega
    have z1 : (0 : Int) ≤ (i : Int) := by omega
    have z2 : (i : Int) ≤ (i : Int) + (t.size : Int) := by omega
    have HS := Lib.hid (show stG s t i = ((s.extract i (i + t.size)).toList == t.toList) by unfold stG; simp [h])
    go_enter Tryd.func42, Tryd.ntmps42
    go_wp2_with fail
    go_ret
    refine ⟨?_, rfl⟩
    rw [HS.out]
    rfl
  · have z0 : ¬ (i : Int) + (t.size : Int) ≤ (s.size : Int) := by omega
    have HS := Lib.hid (show stG s t i = false by unfold stG; simp [h])
    go_enter Tryd.func42, Tryd.ntmps42
    go_wp2_with fail
    go_ret
    refine ⟨?_, rfl⟩
    rw [HS.out]
    rfl
theorem cutl (s : ByteArray) (i n : Nat) (h : i + n ≤ s.size) : (s.extract i (i + n)).toList = bytesAt (by_ s) i n := by_bytes s i n h
theorem stG_bytes {s t : ByteArray} {i : Nat} : stG s t i = (decide (i + t.size ≤ s.size) && (bytesAt (by_ s) i t.size == t.data.toList)) := by
  unfold stG
  rw [ByteArray.toList_eq t]
  by_cases h : i + t.size ≤ s.size
  · rw [cutl s i _ h]
  · simp [h]
theorem stG1 (s : ByteArray) (i a : Nat) (ha : a < 256) : stG s ⟨#[UInt8.ofNat a]⟩ i = (decide (i < s.size) && by_ s i == a) := by
  rw [stG_bytes]
  show (decide (i + 1 ≤ s.size) && ([UInt8.ofNat (by_ s (i + 0))] == [UInt8.ofNat a])) = _
  simp only [List.cons_beq_cons, Nat.add_zero, u8_beq (by_lt s i) ha, show (([] : List UInt8) == []) = true from rfl, Bool.and_true]
  rfl
theorem stG2 (s : ByteArray) (i a c : Nat) (ha : a < 256) (hc : c < 256) : stG s ⟨#[UInt8.ofNat a, UInt8.ofNat c]⟩ i = two (by_ s) s.size i a c := by
  rw [stG_bytes]
  unfold two
  show (decide (i + 2 ≤ s.size) && ([UInt8.ofNat (by_ s (i + 0)), UInt8.ofNat (by_ s (i + 1))] == [UInt8.ofNat a, UInt8.ofNat c])) = _
  simp only [List.cons_beq_cons, Nat.add_zero, u8_beq (by_lt s i) ha, u8_beq (by_lt s (i + 1)) hc, show (([] : List UInt8) == []) = true from rfl, Bool.and_true, Bool.and_assoc]
theorem stG3 (s : ByteArray) (i : Nat) : stG s ⟨#[124, 124, 124]⟩ i = bars (by_ s) s.size i := by
  rw [stG_bytes]
  unfold bars
  show (decide (i + 3 ≤ s.size) && ([UInt8.ofNat (by_ s (i + 0)), UInt8.ofNat (by_ s (i + 1)), UInt8.ofNat (by_ s (i + 2))] == [UInt8.ofNat 124, UInt8.ofNat 124, UInt8.ofNat 124])) = _
  simp only [List.cons_beq_cons, Nat.add_zero, u8_beq (by_lt s i) (show 124 < 256 by omega), u8_beq (by_lt s (i + 1)) (show 124 < 256 by omega), u8_beq (by_lt s (i + 2)) (show 124 < 256 by omega), show (([] : List UInt8) == []) = true from rfl, Bool.and_true, Bool.and_assoc]
/-- The margin of a place stands at another one. -/
theorem stG_margin (s : ByteArray) (p0 m i : Nat) (h : p0 + m ≤ s.size) : stG s (s.extract p0 (p0 + m)) i = true ↔ StM (by_ s) s.size p0 m i := by
  have hz : (s.extract p0 (p0 + m)).size = m := cut_size h
  rw [stG_bytes, hz, ← ByteArray.toList_eq, cutl s p0 m h]
  unfold StM
  simp only [Bool.and_eq_true, decide_eq_true_eq, beq_iff_eq]
  constructor
  · rintro ⟨h1, h2⟩
    refine ⟨h1, fun k hk => ?_⟩
    have h3 := congrArg (fun l => l[k]?) h2
    simp only [bytesAt, List.getElem?_map, List.getElem?_range hk, Option.map_some, Option.some.injEq] at h3
    have h4 := congrArg UInt8.toNat h3
    rwa [u8_nat (by_lt s _), u8_nat (by_lt s _)] at h4
  · rintro ⟨h1, h2⟩
    refine ⟨h1, ?_⟩
    unfold bytesAt
    apply List.map_congr_left
    intro k hk
    rw [h2 k (List.mem_range.1 hk)]
/-- A byte stands in a text. -/
theorem isIn_any (c : Nat) (v : ByteArray) (hs : v.size ≤ 1000000000) (w : World) :
    Calls Tryd.prog 55 #[.int .u8 c, .string v] w fun e w' => e = .returned (.bool (hasQ v c)) ∧ w = w' := by
  go_enter Tryd.func55, Tryd.ntmps55
  go_wp2_with fail
  go_loopw [5] (fun t wr => ∃ i : Nat, t = .int .i64 i ∧ i ≤ v.size ∧ wr = w ∧ Hid (hasUp v c i = false)) (fun t _ => v.size - (intOf t).toNat)
  case atStart => exact ⟨0, rfl, by omega, by trivial, Lib.hid rfl⟩
  case round =>
    obtain ⟨i, rfl, hi, rfl, H⟩ := hrel
    by_cases hlt : i < v.size
    · have hd := by_eq hlt
      by_cases he : by_ v i = c
      · have q : (((v[i]'hlt).toNat : Int) == (c : Int)) = true := by rw [hd, he]; simp
        have HE := Lib.hid (show hasQ v c = true by
          unfold hasQ hasUp
          rw [List.any_eq_true]
          exact ⟨i, by simpa using hlt, by simpa using he⟩)
        clear hd he
        go_wp2_with fail
        go_ret
        exact ⟨by rw [HE.out]; rfl, rfl⟩
      · have q : (((v[i]'hlt).toNat : Int) == (c : Int)) = false := by rw [hd]; simp; omega
        have HN := Lib.hid (show hasUp v c (i + 1) = false by rw [hasUp_succ, H.out, beq_eq_false_iff_ne.2 he]; rfl)
        clear hd he
        go_wp2_with fail
        go_roundw
        case rel => exact ⟨i + 1, by go_num, by omega, by trivial, HN⟩
        case measure => simp [intOf]; omega
    · obtain rfl : i = v.size := by omega
      have HE := Lib.hid (show hasQ v c = false from H.out)
      go_wp2_with fail
      go_ret
      exact ⟨by rw [HE.out]; rfl, rfl⟩
end Go.Proofs.YtpgmnggicmbacaaDoor
namespace Go.Proofs.YtpgmnggicmbacaaDoor
open Go.Shelf Go.RowKit
set_option linter.unusedVariables false
set_option linter.unusedSimpArgs false

theorem tail_one {s : ByteArray} {i : Nat} (h : Tail s i) (hi : i < s.size) (hb : by_ s i < 128) : Tail s (i + 1) := by
  obtain ⟨r, n, hp, ht⟩ := h.step hi
  have hd := hp.2.2.1
  have hx := (peek_by hi hb).2
  unfold nextP at hx
  rw [if_pos hi, hd] at hx
  have : n = 1 := by simpa using hx
  subst this
  exact ht
theorem tail_more {s : ByteArray} {i : Nat} (h : Tail s i) : ∀ m, i + m ≤ s.size → (∀ k, k < m → by_ s (i + k) < 128) → Tail s (i + m)
  | 0, _, _ => h
  | m + 1, hm, hb => tail_one (tail_more h m (by omega) (fun k hk => hb k (by omega))) (show i + m < s.size by omega) (hb m (by omega))
theorem hd_low {c : Nat} (h : hdB c = true) : c < 128 := by
  unfold hdB at h
  simp at h
  omega
theorem ws_low {c : Nat} (h : wsB c = true) : c < 128 := by
  unfold wsB at h
  simp at h
  omega
theorem nl_low {c : Nat} (h : nlB c = true) : c < 128 := by
  unfold nlB at h
  simp at h
  omega
/-- Up to a place there are only bytes of a kind. -/
def UpI (p : Nat → Bool) (s : ByteArray) (a e : Nat) : Prop := a ≤ e ∧ e ≤ s.size ∧ ∀ i, a ≤ i → i < e → p (by_ s i) = true
theorem UpI.start {p : Nat → Bool} {s : ByteArray} {a : Nat} (h : a ≤ s.size) : UpI p s a a := ⟨Nat.le_refl _, h, fun i h1 h2 => absurd h1 (by omega)⟩
theorem UpI.more {p : Nat → Bool} {s : ByteArray} {a e : Nat} (h : UpI p s a e) (he : e < s.size) (hp : p (by_ s e) = true) : UpI p s a (e + 1) := by
  obtain ⟨h1, h2, h3⟩ := h
  refine ⟨by omega, he, fun i hi hl => ?_⟩
  rcases Nat.lt_or_ge i e with g | g
  · exact h3 i hi g
  · obtain rfl : i = e := by omega
    exact hp
theorem UpI.done {p : Nat → Bool} {s : ByteArray} {a e : Nat} (h : UpI p s a e) (hp : e < s.size → p (by_ s e) = false) : Upto p (by_ s) s.size a e := ⟨h.1, h.2.1, h.2.2, hp⟩
theorem UpI.tail {p : Nat → Bool} {s : ByteArray} {a e : Nat} (h : UpI p s a e) (hp : ∀ c, p c = true → c < 128) (ht : Tail s a) : Tail s e := by
  have := tail_more ht (e - a) (by have := h.1; have := h.2.1; omega) (fun k hk => hp _ (h.2.2 _ (by omega) (by omega)))
  rwa [show a + (e - a) = e by have := h.1; omega] at this
/-- The head of a text block whose white space begins at a place. -/
structure HeadQ (s : ByteArray) (q p1 p0 m : Nat) : Prop where
  one : Upto hdB (by_ s) s.size q p1
  nl : Nl (by_ s) s.size p1
  two : Upto nlB (by_ s) s.size (p1 + 1) p0
  mar : Upto wsB (by_ s) s.size p0 (p0 + m)
theorem HeadQ.head {s : ByteArray} {p1 p0 m : Nat} (h : HeadQ s 3 p1 p0 m) : Head (by_ s) s.size p1 p0 m := ⟨h.one, h.nl, h.two, h.mar⟩
/-- What stands at a line's beginning. -/
def RnI (s : ByteArray) (p1 p0 m a : Nat) (v : List UInt8) : Prop := Tail s 0 → Tail s a ∧ Run (by_ s) s.size p0 m p0 (blanks0 p1 p0) a v
theorem lnI_start {s : ByteArray} {a : Nat} {v : List UInt8} (h : Tail s 0 → Tail s a) : LnI s a a v v := by
  intro ht
  refine ⟨h ht, Nat.le_refl _, by rw [Nat.sub_self, bytesAt_zero, List.append_nil], fun i h1 h2 => absurd h1 (by omega)⟩
theorem peek10 {s : ByteArray} {pos : Nat} (h : peekR s pos = 10) : pos < s.size ∧ by_ s pos = 10 ∧ nextP s pos = pos + 1 := by
  have h1 := (peek_is (s := s) (pos := pos) (c := 10) (by omega)).1 (by simpa using h)
  exact ⟨h1.1, h1.2, (peek_by h1.1 (by omega)).2⟩
theorem peek_not10 {s : ByteArray} {pos : Nat} (h : peekR s pos ≠ 10) : ¬ Nl (by_ s) s.size pos := fun hn => h (by have := (peek_is (s := s) (pos := pos) (c := 10) (by omega)).2 hn; simpa using this)
/-- A line is read to its end. -/
theorem rn_line {s : ByteArray} {p1 p0 m a pos : Nat} {v u : List UInt8} (h : RnI s p1 p0 m a v) (hn : ¬ Nl (by_ s) s.size a) (hm : StM (by_ s) s.size p0 m a) (hl : LnI s (a + m) pos v u) (h10 : peekR s pos = 10) : RnI s p1 p0 m (pos + 1) (u ++ [10]) := by
  intro ht
  obtain ⟨h1, h2⟩ := h ht
  obtain ⟨k1, k2, rfl, k4⟩ := hl ht
  obtain ⟨e1, e2, e3⟩ := peek10 h10
  exact ⟨tail_one k1 e1 (by omega), .tail h2 (.line hn hm ⟨k2, e1, e2, k4⟩)⟩
/-- An empty line is read. -/
theorem rn_nl {s : ByteArray} {p1 p0 m a : Nat} {v : List UInt8} (h : RnI s p1 p0 m a v) (h10 : peekR s a = 10) : RnI s p1 p0 m (a + 1) (v ++ [10]) := by
  intro ht
  obtain ⟨h1, h2⟩ := h ht
  obtain ⟨e1, e2, e3⟩ := peek10 h10
  exact ⟨tail_one h1 e1 (by omega), .tail h2 (.nl ⟨e1, e2⟩)⟩
/-- What the package is to say of a text block. -/
def BlkSay (s : ByteArray) (v : Option (List UInt8)) : Prop := by_ s 3 ≠ 45 → Tail s 0 → match v with | none => ∀ u, ¬ BlockOk (by_ s) s.size u | some u => BlockOk (by_ s) s.size u
theorem say_head {s : ByteArray} {q p1 : Nat} (hq : by_ s 3 ≠ 45 → q = 3) (h : Upto hdB (by_ s) s.size q p1) (hn : ¬ Nl (by_ s) s.size p1) : BlkSay s none := by
  intro h3 _
  obtain rfl := hq h3
  exact bad_head h hn
theorem say_margin {s : ByteArray} {q p1 p0 : Nat} (hq : by_ s 3 ≠ 45 → q = 3) (h : HeadQ s q p1 p0 0) : BlkSay s none := by
  intro h3 _
  obtain rfl := hq h3
  exact bad_margin h.head
theorem say_eof {s : ByteArray} {q p1 p0 m a pos : Nat} {v u : List UInt8} (hq : by_ s 3 ≠ 45 → q = 3) (h : HeadQ s q p1 p0 m) (hr : RnI s p1 p0 m a v) (hn : ¬ Nl (by_ s) s.size a) (hm : StM (by_ s) s.size p0 m a) (hl : LnI s (a + m) pos v u) (hp : s.size ≤ pos) : BlkSay s none := by
  intro h3 ht
  obtain rfl := hq h3
  obtain ⟨k1, k2, k3, k4⟩ := hl ht
  exact bad_eof h.head (hr ht).2 hn hm (fun e he => k4 e he.1 (by have := he.2.1; omega) he.2.2.1)
theorem say_end {s : ByteArray} {q p1 p0 m a z : Nat} {v : List UInt8} (hq : by_ s 3 ≠ 45 → q = 3) (h : HeadQ s q p1 p0 m) (hr : RnI s p1 p0 m a v) (hn : ¬ Nl (by_ s) s.size a) (hm : ¬ StM (by_ s) s.size p0 m a) (hz : Upto wsB (by_ s) s.size a z) (hb : bars (by_ s) s.size z = false) : BlkSay s none := by
  intro h3 ht
  obtain rfl := hq h3
  exact bad_end h.head (hr ht).2 hn hm hz hb
theorem say_ok {s : ByteArray} {q p1 p0 m a z : Nat} {v : List UInt8} (hq : by_ s 3 ≠ 45 → q = 3) (h : HeadQ s q p1 p0 m) (h1 : 1 ≤ m) (hr : RnI s p1 p0 m a v) (hn : ¬ Nl (by_ s) s.size a) (hm : ¬ StM (by_ s) s.size p0 m a) (hz : Upto wsB (by_ s) s.size a z) (hb : bars (by_ s) s.size z = true) : BlkSay s (some v) := by
  intro h3 ht
  obtain rfl := hq h3
  exact ⟨p1, p0, m, a, z, h.head, h1, (hr ht).2, hn, hm, hz, hb⟩
/-- The blank lines ahead of the first line, as they are written. -/
theorem blanks_more (p1 p : Nat) (h : p1 + 1 ≤ p) : blanks0 p1 p ++ [10] = blanks0 p1 (p + 1) := by
  unfold blanks0
  rw [show p + 1 - (p1 + 1) = (p - (p1 + 1)) + 1 by omega, List.replicate_succ']
/-- The margin of the first line. -/
theorem margin_first {s : ByteArray} {p0 m : Nat} (h : Upto wsB (by_ s) s.size p0 (p0 + m)) : StM (by_ s) s.size p0 m p0 := ⟨h.2.1, fun _ _ => rfl⟩
/-- What checkWhitespace says of the margin at a place. -/
theorem cw_margin {s : ByteArray} {p0 m a n : Nat} (h : Upto wsB (by_ s) s.size p0 (p0 + m)) (ha : a ≤ s.size)
    (hn1 : n ≤ (s.extract p0 (p0 + m)).size) (hn2 : n ≤ (s.extract a s.size).size) (hk : ∀ k, k < n → wsB (by_ (s.extract p0 (p0 + m)) k) = true ∧ by_ (s.extract a s.size) k = by_ (s.extract p0 (p0 + m)) k)
    (hc : (n = (s.extract p0 (p0 + m)).size ∨ wsB (by_ (s.extract p0 (p0 + m)) n) = false) ∨ n = 0 ∧ ∃ j, j < (s.extract p0 (p0 + m)).size ∧ (∀ k, k ≤ j → wsB (by_ (s.extract p0 (p0 + m)) k) = true) ∧ ((s.extract a s.size).size ≤ j ∨ by_ (s.extract a s.size) j ≠ by_ (s.extract p0 (p0 + m)) j)) :
    (n = m ∧ StM (by_ s) s.size p0 m a) ∨ (n = 0 ∧ ¬ StM (by_ s) s.size p0 m a) := by
  have hm : (s.extract p0 (p0 + m)).size = m := cut_size h.2.1
  have hr : (s.extract a s.size).size = s.size - a := by rw [ByteArray.size_extract]; omega
  have b1 : ∀ k, k < m → by_ (s.extract p0 (p0 + m)) k = by_ s (p0 + k) := fun k hk => by_cut h.2.1 hk
  have b2 : ∀ k, k < s.size - a → by_ (s.extract a s.size) k = by_ s (a + k) := fun k hk => by
    have := by_cut (s := s) (i := a) (n := s.size - a) (k := k) (by omega) hk
    rwa [show a + (s.size - a) = s.size by omega] at this
  rw [hm] at hn1 hc
  rw [hr] at hn2 hc
  rcases hc with (hc | hc) | ⟨h0, j, hj, -, hc⟩
  · left
    refine ⟨hc, by omega, fun k hk' => ?_⟩
    have := (hk k (by omega)).2
    rw [b1 k hk', b2 k (by omega)] at this
    exact this
  · rcases Nat.lt_or_ge n m with g | g
    · rw [b1 n g, h.2.2.1 (p0 + n) (by omega) (by omega)] at hc
      cases hc
    · left
      have : n = m := by omega
      subst this
      refine ⟨rfl, by omega, fun k hk' => ?_⟩
      have := (hk k hk').2
      rw [b1 k hk', b2 k (by omega)] at this
      exact this
  · right
    refine ⟨h0, fun hs => ?_⟩
    have h1 := hs.1
    rcases hc with hc | hc
    · omega
    · rw [b1 j hj, b2 j (by omega)] at hc
      exact hc (hs.2 j hj)
end Go.Proofs.YtpgmnggicmbacaaDoor
namespace Go.Proofs.YtpgmnggicmbacaaDoor
open Go.Shelf Go.RowKit
set_option linter.unusedVariables false
set_option linter.unusedSimpArgs false

def Comm (s : ByteArray) : Prop := two (by_ s) s.size 0 47 47 = true ∨ two (by_ s) s.size 0 47 42 = true
def Sym0 (s : ByteArray) : Prop := 0 < s.size ∧ opB (by_ s 0) = true
def dollarT : ByteArray := ⟨#[36]⟩
/-- What the package says. -/
def SymP (kB kD kO : Int) (s : ByteArray) (kind : Int) (data : ByteArray) (is : Bool) : Prop :=
  (¬ Sym0 s → is = false) ∧
  (Sym0 s → Comm s → is = false) ∧
  (Sym0 s → ¬ Comm s → bars (by_ s) s.size 0 = true → by_ s 3 ≠ 45 → Tail s 0 → (is = true → kind = kB ∧ BlockOk (by_ s) s.size data.data.toList) ∧ (is = false → ∀ v, ¬ BlockOk (by_ s) s.size v)) ∧
  (Sym0 s → ¬ Comm s → bars (by_ s) s.size 0 = false → is = true ∧ ∃ t, Stop (goI (by_ s) s.size) t ∧ data = s.extract 0 (woundI (by_ s) t) ∧ kind = if data = dollarT then kD else kO)
/-- What the language says, where it is sure. -/
def FirP (s : ByteArray) (k fm : Int) (tx vl : ByteArray) (ok : Bool) : Prop :=
  Tail s 0 ∧ (Sym0 s →
  (Comm s → ok = false) ∧
  (¬ Comm s → bars (by_ s) s.size 0 = true → by_ s 3 ≠ 45 ∧ (ok = true → k = 4 ∧ fm = 5 ∧ tx = ⟨#[]⟩ ∧ BlockOk (by_ s) s.size vl.data.toList) ∧ (ok = false → ∀ v, ¬ BlockOk (by_ s) s.size v)) ∧
  (¬ Comm s → bars (by_ s) s.size 0 = false → ok = true ∧ k = 6 ∧ ∃ all t, Stop (goS (by_ s) s.size) all ∧ (∀ i, 1 ≤ i → i < all → odd1 (by_ s) all i = false) ∧ Wound (by_ s) all t ∧ (t = all ∨ t = 1) ∧ tx = s.extract 0 t))
theorem law_no {kB kD kO : Int} {s : ByteArray} {kind : Int} {data : ByteArray} {is : Bool} {k fm : Int} {tx vl : ByteArray} (h : SymP kB kD kO s kind data is) (g : FirP s k fm tx vl false) (h0 : Sym0 s) : is = false := by
  obtain ⟨h1, h2, h3, h4⟩ := h
  obtain ⟨ht, g⟩ := g
  obtain ⟨g1, g2, g3⟩ := g h0
  by_cases hc : Comm s
  · exact h2 h0 hc
  · cases hb : bars (by_ s) s.size 0
    · exact absurd (g3 hc hb).1 (by decide)
    · obtain ⟨e1, e2, e3⟩ := g2 hc hb
      obtain ⟨f1, f2⟩ := h3 h0 hc hb e1 ht
      cases is
      · rfl
      · exact absurd (f1 rfl).2 (e3 rfl _)
theorem law_yes {kB kD kO : Int} {s : ByteArray} {kind : Int} {data : ByteArray} {is : Bool} {k fm : Int} {tx vl : ByteArray} (h : SymP kB kD kO s kind data is) (g : FirP s k fm tx vl true) (h0 : Sym0 s) :
    is = true ∧ ((k = 4 ∧ fm = 5 ∧ kind = kB ∧ data = vl ∧ tx = ⟨#[]⟩) ∨ (k = 6 ∧ data = tx ∧ kind = if tx = dollarT then kD else kO)) := by
  obtain ⟨h1, h2, h3, h4⟩ := h
  obtain ⟨ht, g⟩ := g
  obtain ⟨g1, g2, g3⟩ := g h0
  by_cases hc : Comm s
  · exact absurd (g1 hc) (by decide)
  · cases hb : bars (by_ s) s.size 0
    · obtain ⟨-, hk, all, t, e1, e2, e3, e4, e5⟩ := g3 hc hb
      obtain ⟨hi, u, f1, f2, f3⟩ := h4 h0 hc hb
      have hu : all = u := (stop_same e1 e2).uniq f1
      subst hu
      have hw := wound_same e3 e4
      rw [hw] at f2
      rw [f2, ← e5] at f3
      exact ⟨hi, .inr ⟨hk, by rw [f2, e5], f3⟩⟩
    · obtain ⟨e1, e2, e3⟩ := g2 hc hb
      obtain ⟨f1, f2⟩ := h3 h0 hc hb e1 ht
      obtain ⟨a1, a2, a3, a4⟩ := e2 rfl
      cases is
      · exact absurd a4 (f2 rfl _)
      · obtain ⟨b1, b2⟩ := f1 rfl
        exact ⟨rfl, .inl ⟨a1, a2, b1, bytes_ext (b2.uniq a4), a3⟩⟩
end Go.Proofs.YtpgmnggicmbacaaDoor
