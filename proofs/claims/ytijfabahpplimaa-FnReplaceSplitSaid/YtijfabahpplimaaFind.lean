/-
  Finding a text in a text, splitting at it, putting another between the parts: plain facts about bytes and code points.
-/
import Derived.Test.YtijfabahpplimaaEnc
namespace Go.Proofs.Ytijfabahpplimaa
open Go.RowKit

/-- The first place from j on where f stands in s. -/
def idxFrom (s f : ByteArray) : Nat → Nat → Option Nat
  | 0, _ => none
  | b + 1, j => if j + f.size ≤ s.size then (if s.extract j (j + f.size) = f then some j else idxFrom s f b (j + 1)) else none
def idx (s f : ByteArray) : Option Nat := idxFrom s f (s.size + 1) 0
theorem idxFrom_some {s f : ByteArray} : ∀ {b j i : Nat}, idxFrom s f b j = some i → i + f.size ≤ s.size ∧ s.extract i (i + f.size) = f
  | 0, j, i, h => by cases h
  | b + 1, j, i, h => by
    unfold idxFrom at h
    split at h
    · rename_i h1
      split at h
      · rename_i h2
        injection h with h
        subst h
        exact ⟨h1, h2⟩
      · exact idxFrom_some h
    · cases h
theorem idx_some {s f : ByteArray} {i : Nat} (h : idx s f = some i) : i + f.size ≤ s.size ∧ s.extract i (i + f.size) = f := idxFrom_some h
theorem idxFrom_end {s f : ByteArray} {b j : Nat} (h : ¬ j + f.size ≤ s.size) : idxFrom s f b j = none := by
  cases b with
  | zero => rfl
  | succ b => unfold idxFrom; rw [if_neg h]
theorem idxFrom_here {s f : ByteArray} {b j : Nat} (h : j + f.size ≤ s.size) (he : s.extract j (j + f.size) = f) : idxFrom s f (b + 1) j = some j := by
  unfold idxFrom; rw [if_pos h, if_pos he]
theorem idxFrom_next {s f : ByteArray} {b j : Nat} (h : j + f.size ≤ s.size) (he : ¬ s.extract j (j + f.size) = f) : idxFrom s f (b + 1) j = idxFrom s f b (j + 1) := by
  rw [idxFrom, if_pos h, if_neg he]

def rest (s f : ByteArray) (i : Nat) : ByteArray := s.extract (i + f.size) s.size
/-- The parts of s between the places of f. -/
def parts (f : ByteArray) : Nat → ByteArray → List ByteArray
  | 0, s => [s]
  | b + 1, s => match idx s f with
    | none => [s]
    | some i => s.extract 0 i :: parts f b (rest s f i)
def repl (f t : ByteArray) : Nat → ByteArray → ByteArray → ByteArray
  | 0, out, s => out ++ s
  | b + 1, out, s => match idx s f with
    | none => out ++ s
    | some i => repl f t b (out ++ (s.extract 0 i ++ t)) (rest s f i)
def glue (t : ByteArray) (a : ByteArray) (l : List ByteArray) : ByteArray := l.foldl (fun w y => w ++ (t ++ y)) a

theorem parts_none {s f : ByteArray} {b : Nat} (h : idx s f = none) : parts f b s = [s] := by
  cases b with
  | zero => rfl
  | succ b => simp [parts, h]
theorem parts_some {s f : ByteArray} {b i : Nat} (h : idx s f = some i) : parts f (b + 1) s = s.extract 0 i :: parts f b (rest s f i) := by
  simp [parts, h]
theorem repl_none {s f t out : ByteArray} {b : Nat} (h : idx s f = none) : repl f t b out s = out ++ s := by
  cases b with
  | zero => rfl
  | succ b => simp [repl, h]
theorem repl_some {s f t out : ByteArray} {b i : Nat} (h : idx s f = some i) : repl f t (b + 1) out s = repl f t b (out ++ (s.extract 0 i ++ t)) (rest s f i) := by
  simp [repl, h]
theorem rest_size {s f : ByteArray} {i : Nat} (_h : i + f.size ≤ s.size) : (rest s f i).size = s.size - (i + f.size) := by
  simp [rest, ByteArray.size_extract]
theorem head_size {s f : ByteArray} {i : Nat} (h : i + f.size ≤ s.size) : (s.extract 0 i).size = i := by
  simp [ByteArray.size_extract]; omega

theorem parts_repl (f t : ByteArray) : ∀ (b : Nat) (out s : ByteArray), ∃ p q, parts f b s = p :: q ∧ repl f t b out s = glue t (out ++ p) q
  | 0, out, s => ⟨s, [], rfl, rfl⟩
  | b + 1, out, s => by
    cases h : idx s f with
    | none => exact ⟨s, [], parts_none h, repl_none h⟩
    | some i =>
      obtain ⟨p, q, h1, h2⟩ := parts_repl f t b (out ++ (s.extract 0 i ++ t)) (rest s f i)
      refine ⟨s.extract 0 i, p :: q, by rw [parts_some h, h1], ?_⟩
      rw [repl_some h, h2]
      show _ = glue t ((out ++ s.extract 0 i) ++ (t ++ p)) q
      congr 1
      simp only [ByteArray.append_assoc]

theorem cut3 {s f : ByteArray} {i : Nat} (h : idx s f = some i) : s.extract 0 i ++ f ++ rest s f i = s := by
  obtain ⟨h1, h2⟩ := idx_some h
  have e : s.extract 0 i ++ s.extract i (i + f.size) ++ s.extract (i + f.size) s.size = s := by
    rw [ByteArray.extract_append_extract]
    have e1 : min 0 i = 0 := by omega
    have e2 : max i (i + f.size) = i + f.size := by omega
    rw [e1, e2, ByteArray.extract_append_extract]
    have e3 : min 0 (i + f.size) = 0 := by omega
    have e4 : max (i + f.size) s.size = s.size := by omega
    rw [e3, e4]
    exact ByteArray.extract_zero_size
  rw [h2] at e
  exact e
theorem repl_same (f : ByteArray) : ∀ (b : Nat) (out s : ByteArray), repl f f b out s = out ++ s
  | 0, out, s => rfl
  | b + 1, out, s => by
    cases h : idx s f with
    | none => exact repl_none h
    | some i =>
      rw [repl_some h, repl_same f b]
      have := cut3 h
      conv => rhs; rw [← this]
      simp only [ByteArray.append_assoc]
theorem repl_size (f t : ByteArray) (hf : 0 < f.size) : ∀ (b : Nat) (out s : ByteArray), (repl f t b out s).size ≤ out.size + s.size * (t.size + 1)
  | 0, out, s => by
    simp only [repl, ByteArray.size_append]
    have := Nat.le_mul_of_pos_right s.size (show 0 < t.size + 1 by omega)
    omega
  | b + 1, out, s => by
    cases h : idx s f with
    | none =>
      rw [repl_none h, ByteArray.size_append]
      have := Nat.le_mul_of_pos_right s.size (show 0 < t.size + 1 by omega)
      omega
    | some i =>
      have h1 := (idx_some h).1
      have h2 := repl_size f t hf b (out ++ (s.extract 0 i ++ t)) (rest s f i)
      rw [repl_some h]
      rw [rest_size h1, ByteArray.size_append, ByteArray.size_append, head_size h1] at h2
      have h3 : (s.size - (i + f.size)) * (t.size + 1) + (i + f.size) * (t.size + 1) = s.size * (t.size + 1) := by
        rw [← Nat.add_mul]; congr 1; omega
      have h4 : (i + 1) * (t.size + 1) ≤ (i + f.size) * (t.size + 1) := Nat.mul_le_mul_right _ (by omega)
      have h5 : (i + 1) * (t.size + 1) = i * (t.size + 1) + t.size + 1 := by rw [Nat.add_mul]; omega
      have h6 := Nat.le_mul_of_pos_right i (show 0 < t.size + 1 by omega)
      omega

/-- A text of code points that stand for themselves. -/
def Txt (s : ByteArray) : Prop := ∃ l : List Nat, (∀ r ∈ l, Scal r) ∧ text l = s

def listOf (b : ByteArray) : List UInt8 := b.data.toList
theorem listOf_eq (b : ByteArray) : b.data.toList = listOf b := rfl
def encL (r : Nat) : List UInt8 := listOf (enc r)
def bytesL (l : List Nat) : List UInt8 := l.flatMap encL
theorem bytes_ext {a b : ByteArray} (h : a.data.toList = b.data.toList) : a = b := by
  cases a; cases b
  simp only at h
  rw [Array.toList_inj.1 h]
theorem bytesL_nil : bytesL [] = [] := List.flatMap_nil
theorem bytesL_cons (r : Nat) (l : List Nat) : bytesL (r :: l) = encL r ++ bytesL l := List.flatMap_cons
theorem bytesL_append (a b : List Nat) : bytesL (a ++ b) = bytesL a ++ bytesL b := List.flatMap_append
theorem encL_eq (r : Nat) : (enc r).data.toList = encL r := by rw [listOf_eq]; unfold encL; rfl
theorem fold_data (l : List Nat) : ∀ a : ByteArray, (l.foldl (fun r n => r ++ enc n) a).data.toList = a.data.toList ++ bytesL l := by
  induction l with
  | nil => intro a; rw [bytesL_nil, List.append_nil, List.foldl_nil]
  | cons r l ih => intro a; rw [List.foldl_cons, ih, ByteArray.data_append, Array.toList_append, List.append_assoc, encL_eq, bytesL_cons]
theorem text_fold (l : List Nat) : text l = l.foldl (fun r n => r ++ enc n) ByteArray.empty := by
  unfold text runesBytes
  rw [List.foldl_map]
  rfl
theorem text_data (l : List Nat) : (text l).data.toList = bytesL l := by
  rw [text_fold, fold_data]; rfl
theorem text_append (a b : List Nat) : text (a ++ b) = text a ++ text b := by
  apply bytes_ext
  rw [text_data, ByteArray.data_append, Array.toList_append, text_data, text_data, bytesL_append]

def isLead (b : UInt8) : Prop := ¬ (128 ≤ b.toNat ∧ b.toNat < 192)
def isCont (b : UInt8) : Prop := 128 ≤ b.toNat ∧ b.toNat < 192
theorem lead_of {n : Nat} (h : n < 256) (h2 : n < 128 ∨ 192 ≤ n) : isLead (UInt8.ofNat n) := by
  unfold isLead; rw [u8_nat h]; omega
theorem cont_of {n : Nat} (h : n < 64) : isCont (UInt8.ofNat (128 + n)) := by
  unfold isCont; rw [u8_nat (by omega)]; omega
theorem encL_lead {r : Nat} (h : Scal r) : ∃ b cs, encL r = b :: cs ∧ isLead b ∧ ∀ c ∈ cs, isCont c := by
  have hd := enc_data h
  have hs : r ≤ 1114111 := h.1
  rw [← encL_eq, hd]
  clear hd h
  by_cases c1 : r < 128
  · rw [if_pos c1]
    exact ⟨_, [], rfl, lead_of (by omega) (by omega), fun c hc => absurd hc List.not_mem_nil⟩
  rw [if_neg c1]
  by_cases c2 : r < 2048
  · rw [if_pos c2]
    refine ⟨_, [_], rfl, lead_of (by omega) (by omega), fun c hc => ?_⟩
    rw [List.mem_singleton] at hc
    subst hc
    exact cont_of (by omega)
  rw [if_neg c2]
  by_cases c3 : r < 65536
  · rw [if_pos c3]
    refine ⟨_, [_, _], rfl, lead_of (by omega) (by omega), fun c hc => ?_⟩
    rw [List.mem_cons, List.mem_singleton] at hc
    rcases hc with rfl | rfl <;> exact cont_of (by omega)
  rw [if_neg c3]
  refine ⟨_, [_, _, _], rfl, lead_of (by omega) (by omega), fun c hc => ?_⟩
  rw [List.mem_cons, List.mem_cons, List.mem_singleton] at hc
  rcases hc with rfl | rfl | rfl <;> exact cont_of (by omega)

theorem enc_front (z : Nat) (q : List UInt8) : (ByteArray.empty ++ enc z ++ ⟨q.toArray⟩).data.toList = encL z ++ q := by
  rw [ByteArray.data_append, Array.toList_append, ByteArray.data_append, Array.toList_append, encL_eq, show ByteArray.empty.data.toList = [] from rfl, List.nil_append]
theorem encL_inj {x y : Nat} (hx : Scal x) (hy : Scal y) (q q' : List UInt8) (h : encL x ++ q = encL y ++ q') : x = y := by
  have px := enc_pt hx ByteArray.empty ⟨q.toArray⟩
  have py := enc_pt hy ByteArray.empty ⟨q'.toArray⟩
  have e : ByteArray.empty ++ enc x ++ ⟨q.toArray⟩ = ByteArray.empty ++ enc y ++ ⟨q'.toArray⟩ := by
    apply bytes_ext
    rw [enc_front, enc_front, h]
  rw [e] at px
  generalize (enc x).size = n at px
  generalize (enc y).size = m at py
  exact congrArg Prod.fst (px.2.2.1.symm.trans py.2.2.1)

def Scals (l : List Nat) : Prop := ∀ r ∈ l, Scal r
theorem Scals.head {r : Nat} {l : List Nat} (h : Scals (r :: l)) : Scal r := h r List.mem_cons_self
theorem Scals.tail {r : Nat} {l : List Nat} (h : Scals (r :: l)) : Scals l := fun x hx => h x (List.mem_cons_of_mem _ hx)
theorem Scals.left {a b : List Nat} (h : Scals (a ++ b)) : Scals a := fun x hx => h x (List.mem_append_left _ hx)
theorem Scals.right {a b : List Nat} (h : Scals (a ++ b)) : Scals b := fun x hx => h x (List.mem_append_right _ hx)
theorem Scals.append {a b : List Nat} (h : Scals a) (k : Scals b) : Scals (a ++ b) := fun x hx => by
  rcases List.mem_append.1 hx with hx | hx
  · exact h x hx
  · exact k x hx
theorem pre_of (m : List Nat) : ∀ (l : List Nat) (Q : List UInt8), Scals m → Scals l → bytesL l = bytesL m ++ Q → ∃ l2, l = m ++ l2 ∧ bytesL l2 = Q := by
  induction m with
  | nil =>
    intro l Q _ _ h
    rw [bytesL_nil, List.nil_append] at h
    exact ⟨l, rfl, h⟩
  | cons x m ih =>
    intro l Q hm hl h
    cases l with
    | nil =>
      obtain ⟨b, cs, he, -⟩ := encL_lead hm.head
      rw [bytesL_nil, bytesL_cons, he] at h
      cases h
    | cons y l =>
      rw [bytesL_cons, bytesL_cons, List.append_assoc] at h
      obtain rfl := encL_inj hl.head hm.head _ _ h
      have h2 := List.append_cancel_left h
      obtain ⟨l2, rfl, h3⟩ := ih l Q hm.tail hl.tail h2
      exact ⟨l2, rfl, h3⟩
theorem cut_of (l : List Nat) : ∀ (P R : List UInt8) (b : UInt8), Scals l → isLead b → bytesL l = P ++ b :: R → ∃ l1 l2, l = l1 ++ l2 ∧ bytesL l1 = P ∧ bytesL l2 = b :: R := by
  induction l with
  | nil =>
    intro P R b _ _ h
    rw [bytesL_nil] at h
    exact absurd h.symm (by simp)
  | cons r l ih =>
    intro P R b hs hb h
    cases P with
    | nil => exact ⟨[], r :: l, rfl, bytesL_nil, h⟩
    | cons p P =>
      obtain ⟨b0, cs, he, -, hc⟩ := encL_lead hs.head
      rw [bytesL_cons, he] at h
      rw [List.cons_append, List.cons_append] at h
      injection h with h1 h2
      subst h1
      rcases List.append_eq_append_iff.1 h2 with ⟨t, h3, h4⟩ | ⟨t, h3, h4⟩
      · obtain ⟨l1, l2, rfl, h5, h6⟩ := ih t R b hs.tail hb h4
        refine ⟨r :: l1, l2, rfl, ?_, h6⟩
        rw [bytesL_cons, he, h5, h3, List.cons_append]
      · cases t with
        | nil =>
          refine ⟨[r], l, rfl, ?_, ?_⟩
          · rw [bytesL_cons, bytesL_nil, he, h3, List.append_nil, List.append_nil]
          · rw [List.nil_append] at h4
            exact h4.symm
        | cons b' t =>
          rw [List.cons_append] at h4
          injection h4 with h5 h6
          subst h5
          exact absurd (hc b (by rw [h3]; exact List.mem_append_right _ List.mem_cons_self)) hb

theorem Txt.append {a b : ByteArray} (ha : Txt a) (hb : Txt b) : Txt (a ++ b) := by
  obtain ⟨l, hl, rfl⟩ := ha
  obtain ⟨m, hm, rfl⟩ := hb
  exact ⟨l ++ m, Scals.append hl hm, text_append l m⟩
theorem Txt.empty : Txt ByteArray.empty := ⟨[], fun _ h => absurd h List.not_mem_nil, rfl⟩
theorem cut_txt {s f : ByteArray} {i : Nat} (hs : Txt s) (hf : Txt f) (h0 : 0 < f.size) (h : idx s f = some i) : Txt (s.extract 0 i) ∧ Txt (rest s f i) := by
  obtain ⟨l, hl, rfl⟩ := hs
  obtain ⟨m, hm, rfl⟩ := hf
  have hl : Scals l := hl
  have hm : Scals m := hm
  have e := congrArg (fun b => b.data.toList) (cut3 h)
  simp only [ByteArray.data_append, Array.toList_append, text_data] at e
  generalize hP : (text l).extract 0 i = P at *
  generalize hQ : rest (text l) (text m) i = Q at *
  cases m with
  | nil => rw [text_nil] at h0; exact absurd h0 (by decide)
  | cons x m =>
    obtain ⟨b, cs, he, hb, -⟩ := encL_lead hm.head
    have e2 : bytesL l = P.data.toList ++ b :: (cs ++ bytesL m ++ Q.data.toList) := by
      rw [← e, bytesL_cons, he, List.append_assoc, List.cons_append, List.cons_append]
    obtain ⟨l1, l2, rfl, h1, h2⟩ := cut_of l _ _ b hl hb e2
    have e3 : bytesL l2 = bytesL (x :: m) ++ Q.data.toList := by
      rw [h2, bytesL_cons, he, List.cons_append, List.cons_append]
    obtain ⟨l3, rfl, h3⟩ := pre_of (x :: m) l2 _ hm hl.right e3
    exact ⟨⟨l1, hl.left, bytes_ext (by rw [text_data, h1])⟩, ⟨l3, hl.right.right, bytes_ext (by rw [text_data, h3])⟩⟩
theorem parts_txt {f : ByteArray} (hf : Txt f) (h0 : 0 < f.size) : ∀ (b : Nat) (s : ByteArray), Txt s → ∀ p ∈ parts f b s, Txt p
  | 0, s, hs, p, hp => by
    simp only [parts, List.mem_singleton] at hp
    subst hp; exact hs
  | b + 1, s, hs, p, hp => by
    cases h : idx s f with
    | none =>
      rw [parts_none h, List.mem_singleton] at hp
      subst hp; exact hs
    | some i =>
      rw [parts_some h, List.mem_cons] at hp
      obtain ⟨h1, h2⟩ := cut_txt hs hf h0 h
      rcases hp with rfl | hp
      · exact h1
      · exact parts_txt hf h0 b _ h2 p hp
theorem repl_txt {f t : ByteArray} (hf : Txt f) (h0 : 0 < f.size) (ht : Txt t) : ∀ (b : Nat) (out s : ByteArray), Txt out → Txt s → Txt (repl f t b out s)
  | 0, out, s, ho, hs => ho.append hs
  | b + 1, out, s, ho, hs => by
    cases h : idx s f with
    | none => rw [repl_none h]; exact ho.append hs
    | some i =>
      obtain ⟨h1, h2⟩ := cut_txt hs hf h0 h
      rw [repl_some h]
      exact repl_txt hf h0 ht b _ _ (ho.append (h1.append ht)) h2
theorem glue_size (t : ByteArray) : ∀ (l : List ByteArray) (a : ByteArray) (k : Nat), (glue t a (l.take k)).size ≤ (glue t a l).size
  | [], a, k => by simp
  | x :: l, a, 0 => by
    simp only [List.take_zero]
    have h := glue_size t l (a ++ (t ++ x)) 0
    simp only [List.take_zero] at h
    show a.size ≤ (glue t (a ++ (t ++ x)) l).size
    have h2 : (glue t (a ++ (t ++ x)) []).size = a.size + (t.size + x.size) := by simp [glue, ByteArray.size_append]
    omega
  | x :: l, a, k + 1 => by
    simp only [List.take_succ_cons]
    exact glue_size t l (a ++ (t ++ x)) k
theorem glue_snoc (t a : ByteArray) (l : List ByteArray) (x : ByteArray) : glue t a (l ++ [x]) = glue t a l ++ (t ++ x) := by
  simp [glue]
end Go.Proofs.Ytijfabahpplimaa
