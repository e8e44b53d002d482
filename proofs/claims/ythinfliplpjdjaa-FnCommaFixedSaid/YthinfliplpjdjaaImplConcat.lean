/-
  impl.FodderConcat: what both lists say, put together.
-/
import Derived.Test.YthinfliplpjdjaaConcat2
namespace Go.Proofs.Ythinfliplpjdjaa
open Go.RowKit

abbrev Say := Int × Int × Int × List ByteArray

def cleanS (l : List Say) : Bool := match l[l.length - 1]? with | some x => x.1 != 1 | none => false
def appendS (l : List Say) (e : Say) : List Say :=
  if cleanS l = true ∧ e.1 = 0 then
    if 0 < e.2.2.2.length then l ++ [(2, e.2.1, e.2.2.1, e.2.2.2)] else match l[l.length - 1]? with | some x => l.set (l.length - 1) (x.1, x.2.1 + e.2.1, e.2.2.1, x.2.2.2) | none => l
  else l ++ [e]
def concatS (a b : List Say) : List Say := if a = [] then b else match b with | [] => a | b0 :: rb => appendS a b0 ++ rb

theorem clean_say (fs : List CE) : cleanB fs = cleanS (fs.map CE.say) := by
  unfold cleanB cleanS
  rw [List.length_map, List.getElem?_map]
  cases fs[fs.length - 1]? <;> rfl
theorem append_say (fs : List CE) (e : CE) (he : e.cs.length = e.n) : (appendC fs e).map CE.say = appendS (fs.map CE.say) e.say := by
  unfold appendC appendS
  rw [clean_say fs]
  show List.map CE.say (if cleanS (fs.map CE.say) = true ∧ e.k = 0 then _ else _) = if cleanS (fs.map CE.say) = true ∧ e.k = 0 then _ else _
  by_cases h : cleanS (fs.map CE.say) = true ∧ e.k = 0
  · rw [if_pos h, if_pos h]
    show _ = if 0 < e.cs.length then _ else _
    rw [he]
    by_cases h2 : 0 < e.n
    · rw [if_pos h2, if_pos h2, List.map_append]
      rfl
    · rw [if_neg h2, if_neg h2, List.length_map, List.getElem?_map]
      cases hl : fs[fs.length - 1]? with
      | none => rfl
      | some l =>
        simp only [Option.map_some, List.map_set]
        rfl
  · rw [if_neg h, if_neg h, List.map_append]
    rfl
theorem concat_say (fa fb : List CE) (hb : ∀ e ∈ fb, e.cs.length = e.n) : (concatC fa fb).map CE.say = concatS (fa.map CE.say) (fb.map CE.say) := by
  unfold concatC concatS
  by_cases h : fa = []
  · subst h; simp
  · rw [if_neg h, if_neg (by simpa using h)]
    cases fb with
    | nil => rfl
    | cons b0 rb =>
      simp only [List.map_cons, List.map_append]
      rw [append_say fa b0 (hb b0 (by simp))]

def IConcatPost (w : World) (say : List Say) (e : Ending) (w' : World) : Prop :=
  ∃ v es, e = .returned (.tuple #[v, .bool true]) ∧ Elo w' w.heap.size v es ∧ es.map CE.say = say ∧ Below w.heap.size w w'

/-- Kinds and numbers as the law's lists have them. -/
def Good (es : List CE) : Prop := ∀ e ∈ es, 0 ≤ e.k ∧ e.k ≤ 2 ∧ 0 ≤ e.b ∧ e.b ≤ 1000000 ∧ e.cs.length ≤ 1000000

theorem own_below {w w' : World} {base : Nat} {e : TypeId} {size : Nat} {v : Value} {n : Nat} {xs : List Value} (h : w.ownsRow base e size v n xs) (hb : Below w.heap.size w w') : w'.ownsRow base e size v n xs := by
  refine ⟨h.1, ?_⟩
  rcases h.2 with hn | ⟨g, cap, cur, rfl, hg, hgg, rest⟩
  · exact .inl hn
  · exact .inr ⟨g, cap, cur, rfl, hg, (hb.block g (own_lt hgg)).trans hgg, rest⟩
theorem Fod.base_le {w : World} {b b' : Nat} {v : Value} {fs : List CE} (h : Fod w b v fs) (hb : b' ≤ b) : Fod w b' v fs := ⟨own_base h.1 hb, fun e he => own_base (h.2 e he) hb⟩
theorem Fod.below {w w' : World} {b : Nat} {v : Value} {fs : List CE} (h : Fod w b v fs) (hb : Below w.heap.size w w') : Fod w' b v fs :=
  ⟨own_below h.1 hb, fun e he => own_below (h.2 e he) hb⟩
theorem tame_of {fs : List CE} {l : List CE} (hs : fs.map CE.say = l.map CE.say) (hn : ∀ e ∈ fs, e.cs.length = e.n) (hg : Good l) : Tame fs := by
  intro e he
  have : e.say ∈ l.map CE.say := by rw [← hs]; exact List.mem_map.2 ⟨e, he, rfl⟩
  obtain ⟨x, hx, hxe⟩ := List.mem_map.1 this
  have h := hg x hx
  simp only [CE.say, Prod.mk.injEq] at hxe
  have h4 := hn e he
  rw [← hxe.2.2.2] at h4
  rw [← hxe.2.1]
  exact ⟨h.2.2.1, h.2.2.2.1, by omega⟩

theorem concat_all (A1 A2 : Option Addr) (n1 c1 n2 c2 : Nat) (fa fb : List CE) (base : Nat) (w : World) (h1 : Fod w base (.slice A1 n1 c1) fa) (h2 : Fod w base (.slice A2 n2 c2) fb)
    (hsep : (Value.slice A1 n1 c1).ownBlock = none ∨ (Value.slice A1 n1 c1).ownBlock ≠ (Value.slice A2 n2 c2).ownBlock) (hbase : base ≤ w.heap.size) (hn1 : n1 ≤ 1000000) (hn2 : n2 ≤ 1000000)
    (hd : cleanB fa = false → ∀ b0, fb[0]? = some b0 → fa ≠ [] → b0.k ≠ 2) (t1 : Tame fa) (t2 : Tame fb) :
    Calls Try.prog 40 #[.slice A1 n1 c1, .slice A2 n2 c2] w (ConcatPost w base (Value.slice A1 n1 c1).ownBlock (concatC fa fb)) := by
  by_cases hz : fa = []
  · exact concat_nil A1 A2 n1 c1 n2 c2 fa fb base w h1 h2 (.inl hz)
  · cases fb with
    | nil => exact concat_nil A1 A2 n1 c1 n2 c2 fa [] base w h1 h2 (.inr ⟨hz, rfl⟩)
    | cons b0 rb =>
      refine concat_both A1 A2 n1 c1 n2 c2 fa b0 rb base w h1 h2 hz ?_ hbase hn1 hn2 (fun hc => hd hc b0 rfl hz) t1 t2
      rcases hsep with hs | hs
      · obtain ⟨g, cap, hv, _⟩ := h1.1.form (List.length_pos_iff.2 hz)
        rw [hv] at hs
        cases hs
      · exact hs
theorem concatC_len (fa fb : List CE) : (concatC fa fb).length ≤ fa.length + fb.length + 1 := by
  unfold concatC
  split
  · omega
  · cases fb with
    | nil => simp
    | cons b0 rb =>
      have := appendC_len fa b0
      simp only [List.length_append, List.length_cons]
      omega
theorem say_mem_len {f l : List CE} {n : Nat} (hs : f.map CE.say = l.map CE.say) (hf : ∀ e ∈ f, e.cs.length = e.n) (hl : ∀ e ∈ l, e.n ≤ n) (hll : ∀ e ∈ l, e.cs.length = e.n) : ∀ e ∈ f, e.n ≤ n := by
  intro e he
  have : e.say ∈ l.map CE.say := by rw [← hs]; exact List.mem_map.2 ⟨e, he, rfl⟩
  obtain ⟨x, hx, hxe⟩ := List.mem_map.1 this
  simp only [CE.say, Prod.mk.injEq] at hxe
  have h1 := hl x hx
  have h2 := hll x hx
  have h3 := hf e he
  rw [← hxe.2.2.2] at h3
  omega
theorem appendC_small {fs : List CE} {e : CE} {n : Nat} (hf : ∀ x ∈ fs, x.n ≤ n) (he : e.n ≤ n) : ∀ x ∈ appendC fs e, x.n ≤ n := by
  intro x hx
  unfold appendC at hx
  split at hx
  · split at hx
    · rw [List.mem_append] at hx
      rcases hx with hx | hx
      · exact hf x hx
      · simp only [List.mem_singleton] at hx
        subst hx
        exact he
    · split at hx
      · rename_i l hl
        rcases List.mem_or_eq_of_mem_set hx with h | rfl
        · exact hf x h
        · exact hf l (List.mem_of_getElem? hl)
      · exact hf x hx
  · rw [List.mem_append] at hx
    rcases hx with hx | hx
    · exact hf x hx
    · simp only [List.mem_singleton] at hx
      subst hx
      exact he
theorem concat_small {a b f1 f2 : List CE} {n1 n2 : Nat} (_h1 : a.length = n1) (_h2 : b.length = n2) (hs1 : f1.map CE.say = a.map CE.say) (hs2 : f2.map CE.say = b.map CE.say) (l1 : ∀ e ∈ f1, e.cs.length = e.n) (l2 : ∀ e ∈ f2, e.cs.length = e.n)
    (m1 : ∀ e ∈ a, e.n ≤ 1000000) (m2 : ∀ e ∈ b, e.n ≤ 1000000) (k1 : ∀ e ∈ a, e.cs.length = e.n) (k2 : ∀ e ∈ b, e.cs.length = e.n) : ∀ e ∈ concatC f1 f2, e.n ≤ 2147483647 := by
  have s1 := say_mem_len hs1 l1 m1 k1
  have s2 := say_mem_len hs2 l2 m2 k2
  intro e he
  unfold concatC at he
  split at he
  · have := s2 e he; omega
  · cases f2 with
    | nil => have := s1 e he; omega
    | cons b0 rb =>
      simp only [List.mem_append] at he
      rcases he with he | he
      · have := appendC_small s1 (s2 b0 (by simp)) e he; omega
      · have := s2 e (by simp [he]); omega

set_option maxRecDepth 100000 in
set_option maxHeartbeats 1600000 in
theorem implConcat_any (A1 A2 : Option Addr) (n1 c1 n2 c2 : Nat) (a b : List CE) (B : Nat) (w : World) (h1 : Els w B A1 n1 a) (h2 : Els w B A2 n2 b) (hB : B ≤ w.heap.size) (hn1 : n1 ≤ 1000) (hn2 : n2 ≤ 1000)
    (g1 : Good a) (g2 : Good b) (hd : cleanS (a.map CE.say) = false → ∀ b0, b[0]? = some b0 → a ≠ [] → b0.k ≠ 2) (m1 : ∀ e ∈ a, e.n ≤ 1000000) (m2 : ∀ e ∈ b, e.n ≤ 1000000) :
    Calls Try.prog 20 #[.slice A1 n1 c1, .slice A2 n2 c2] w (IConcatPost w (concatS (a.map CE.say) (b.map CE.say))) := by
  have H1 := Lib.hid h1
  have H2 := Lib.hid h2
  have G1 := Lib.hid g1
  have G2 := Lib.hid g2
  have HD := Lib.hid hd
  have M1 := Lib.hid m1
  have M2 := Lib.hid m2
  clear h1 h2 g1 g2 hd m1 m2
  go_enter Try.func20, Try.ntmps20
  go_wp2_with fail
  refine (fodder_any A1 n1 c1 a B _ H1.out hB (by omega) (fun e he => ⟨(G1.out e he).1, (G1.out e he).2.1⟩) (fun e he => by have := M1.out e he; omega)).mono ?_
  rintro e1 w1 ⟨v1, f1, rfl, hb1, hf1, hs1⟩
  have HB1 := Lib.hid hb1
  have HF1 := Lib.hid hf1
  have HS1 := Lib.hid hs1
  have hz1 := hb1.size
  clear hb1 hf1 hs1
  go_wp2_with fail
  refine (fodder_any A2 n2 c2 b B _ (H2.out.below (HB1.out.mono hB)) (by omega) (by omega) (fun e he => ⟨(G2.out e he).1, (G2.out e he).2.1⟩) (fun e he => by have := M2.out e he; omega)).mono ?_
  rintro e2 w2 ⟨v2, f2, rfl, hb2, hf2, hs2⟩
  go_wp2_with fail
  obtain ⟨P1, l1, k1, rfl⟩ := own_slice HF1.out.1
  obtain ⟨P2, l2, k2, rfl⟩ := own_slice hf2.1
  have hz2 := hb2.size
  have q1 : f1.length = n1 := by
    have := congrArg List.length HS1.out
    simpa [H1.out.1] using this
  have q2 : f2.length = n2 := by
    have := congrArg List.length hs2
    simpa [H2.out.1] using this
  have e1 := HF1.out.n_eq
  have e2 := hf2.n_eq
  have hsep : (Value.slice P1 l1 k1).ownBlock = none ∨ (Value.slice P1 l1 k1).ownBlock ≠ (Value.slice P2 l2 k2).ownBlock := by
    cases hv : (Value.slice P1 l1 k1).ownBlock with
    | none => exact .inl rfl
    | some g =>
      right
      intro h
      have h1 := (HF1.out.1.lt g hv).2
      have h2 := (hf2.1.lt g h.symm).1
      omega
  refine (concat_all P1 P2 l1 k1 l2 k2 f1 f2 w.heap.size w2 (HF1.out.below hb2) (hf2.base_le hz1) hsep (by omega) (by omega) (by omega) ?_ (tame_of HS1.out HF1.out.len G1.out) (tame_of hs2 hf2.len G2.out)).mono ?_
  · intro hc b0 hb0 hne
    rw [clean_say, HS1.out] at hc
    have h0 : (f2.map CE.say)[0]? = some b0.say := by rw [List.getElem?_map, hb0]; rfl
    rw [hs2, List.getElem?_map] at h0
    cases hbb : b[0]? with
    | none => rw [hbb] at h0; cases h0
    | some x =>
      rw [hbb] at h0
      simp only [Option.map_some, Option.some.injEq, CE.say, Prod.mk.injEq] at h0
      have := HD.out hc x hbb (fun ha => hne (by
        have := HS1.out
        rw [ha] at this
        simpa using this))
      rw [← h0.1]
      exact this
  rintro e3 w3 ⟨P3, l3, k3, rfl, hr3, hb3, _⟩
  have HR3 := Lib.hid hr3
  have HBB := Lib.hid ((HB1.out.trans (hb2.mono hz1)).trans hb3)
  have HSAY := Lib.hid (concat_say f1 f2 hf2.len)
  have HS2 := Lib.hid hs2
  have HN3 := Lib.hid (concat_small H1.out.1 H2.out.1 HS1.out hs2 HF1.out.len hf2.len M1.out M2.out (fun e he => (H1.out.2.2 e he).len) (fun e he => (H2.out.2.2 e he).len))
  have hl3 : l3 ≤ 3000 := by
    have := concatC_len f1 f2
    have h := hr3.1
    omega
  clear hb2 hf2 hs2 hr3 hb3 hsep e1 e2 q1 q2
  go_wp2_with fail
  refine (elements_any P3 l3 k3 (concatC f1 f2) w3.heap.size _ HR3.out (Nat.le_refl _) (by omega) HN3.out).mono ?_
  rintro e4 w4 ⟨v4, f4, rfl, hb4, hf4, hs4⟩
  have hz3 := HBB.out.size
  have HE4 := Lib.hid (show Elo w4 w.heap.size v4 f4 from ⟨own_base hf4.1 hz3, fun e he => own_base (hf4.2 e he) hz3⟩)
  have HB4 := Lib.hid (HBB.out.trans (hb4.mono hz3))
  have HS4 := Lib.hid hs4
  clear hb4 hf4 hs4
  go_wp2_with fail
  go_ret2
  exact ⟨v4, f4, rfl, HE4.out, by rw [HS4.out, HSAY.out, HS1.out, HS2.out], HB4.out⟩
end Go.Proofs.Ythinfliplpjdjaa
