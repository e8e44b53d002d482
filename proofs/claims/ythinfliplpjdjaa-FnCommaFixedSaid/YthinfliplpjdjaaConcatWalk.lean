/-
  The walk of FnFodderConcat.
-/
import Derived.Test.YthinfliplpjdjaaConcatLaw
import Derived.RegionCalls
namespace Go.Proofs.Ythinfliplpjdjaa
open Go.RowKit

theorem good_of {es : List CE} (h : fodderP es) : Good es := by
  intro e he
  obtain ⟨j, hj, rfl⟩ := List.getElem_of_mem he
  have h1 := ok_facts (e := es[j].say) (h.2 j _ (List.getElem?_eq_getElem hj)).1
  simp only [CE.say] at h1
  exact ⟨h1.1, h1.2.1, h1.2.2.1, by omega, by omega⟩

theorem not_dull {a b : List CE} (h : ¬ dullP a b) : cleanS (a.map CE.say) = false → ∀ b0, b[0]? = some b0 → a ≠ [] → b0.k ≠ 2 := by
  intro hc b0 hb0 hne hk
  apply h
  have hl : a.length - 1 < a.length := by have := List.length_pos_iff.2 hne; omega
  refine ⟨a[a.length - 1], b0, List.getElem?_eq_getElem hl, hb0, hk, ?_⟩
  unfold cleanS at hc
  rw [List.length_map, List.getElem?_map, List.getElem?_eq_getElem hl] at hc
  simpa [CE.say] using hc

theorem concatS_right (a : List Say) : concatS a [] = a := by unfold concatS; split <;> simp_all
theorem concatS_left (b : List Say) : concatS [] b = b := by simp [concatS]
theorem Elo.len {w : World} {base : Nat} {v : Value} {fs : List CE} (h : Elo w base v fs) : ∀ e ∈ fs, e.cs.length = e.n := fun e he => by simpa using (h.2 e he).1
theorem dull_say {a b : List CE} (h : ¬ dullP a b) : ∀ x y, (a.map CE.say)[(a.map CE.say).length - 1]? = some x → (b.map CE.say)[0]? = some y → ¬ (y.1 = 2 ∧ x.1 = 1) := by
  rintro x y hx hy ⟨h1, h2⟩
  rw [List.length_map, List.getElem?_map] at hx
  rw [List.getElem?_map] at hy
  obtain ⟨x', hx', rfl⟩ := Option.map_eq_some_iff.1 hx
  obtain ⟨y', hy', rfl⟩ := Option.map_eq_some_iff.1 hy
  exact h ⟨x', y', hx', hy', h1, h2⟩
theorem clip_ok_back {e : Say} (h : okS (clipS e)) : e.2.2.2.length ≤ 20 ∧ shortAll e.2.2.2 = true := by
  have h1 := ok_facts h
  have h2 : (clipS e).2.2.2 = e.2.2.2 := by unfold clipS; split <;> rfl
  rw [h2] at h1
  exact ⟨h1.2.2.2.2.2.2.1, h1.2.2.2.2.2.2.2.1⟩
theorem sound_cs {cs : List ByteArray} (h : shortAll cs = true) : ∀ s ∈ cs, s.size ≤ maxLen := by
  intro s hs
  unfold shortAll at h
  rw [List.all_eq_true] at h
  have := h s hs
  simp only [decide_eq_true_eq] at this
  unfold maxLen; omega
theorem say_small {w : World} {B1 B2 : Nat} {A1 A2 : Option Addr} {n1 n2 : Nat} {a b es : List CE} (_h1 : Els w B1 A1 n1 a) (_h2 : Els w B2 A2 n2 b) (p1 : fodderP a) (p2 : fodderP b) (nd : ¬ dullP a b) (hs : es.map CE.say = concatS (a.map CE.say) (b.map CE.say))
    (hl : ∀ e ∈ es, e.cs.length = e.n) (hla : a.length ≤ 50) (hlb : b.length ≤ 50) : fodderP (es.map clip) ∧ Sound es := by
  have hf := concat_fod _ _ ((fodderP_iff a).1 p1).2 ((fodderP_iff b).1 p2).2 (dull_say nd)
  rw [← hs, ← clips_say] at hf
  have hlen := concatS_len (a.map CE.say) (b.map CE.say)
  have h2 := congrArg List.length hs
  refine ⟨(fodderP_iff _).2 ⟨by simp at hlen h2 ⊢; omega, hf⟩, fun e he => ?_⟩
  have h3 := fodR_ok _ _ hf (clipS e.say) (by rw [← clip_say]; exact List.mem_map.2 ⟨clip e, List.mem_map.2 ⟨e, he, rfl⟩, rfl⟩)
  have h4 := clip_ok_back h3
  refine ⟨?_, sound_cs h4.2⟩
  have := hl e he
  have h5 : e.cs.length ≤ 20 := h4.1
  unfold maxLen; omega
theorem say_lens {es a : List CE} {l : List Say} (hs : es.map CE.say = l) (hl : l = a.map CE.say) (hp : fodderP a) : ∀ e ∈ es, e.cs.length ≤ 20 := by
  intro e he
  have : e.say ∈ a.map CE.say := by rw [← hl, ← hs]; exact List.mem_map.2 ⟨e, he, rfl⟩
  have h := ok_facts (fodR_ok _ _ ((fodderP_iff a).1 hp).2 _ this)
  exact h.2.2.2.2.2.2.1

theorem small_n {w : World} {B : Nat} {A : Option Addr} {n : Nat} {es : List CE} (h : fodderP (es.map clip) ∧ Sound es) (hr : Els w B A n es) : ∀ e ∈ es, e.n ≤ 2147483647 := by
  intro e he
  have h1 := (hr.2.2 e he).len
  obtain ⟨j, hj, rfl⟩ := List.getElem_of_mem he
  have h2 := h.1.2 j (clip es[j]) (by rw [List.getElem?_map, List.getElem?_eq_getElem hj]; rfl)
  have h3 := ok_facts (e := (clip es[j]).say) h2.1
  rw [clip_say] at h3
  have h4 := (clip_ok_back (e := es[j].say) (by rw [← clip_say]; exact h2.1)).1
  have h5 : es[j].cs.length ≤ 20 := h4
  omega

theorem keepHeld {w w' : World} (hb : Below w.heap.size w w') {p0 p1 p2 p3 q0 q1 q2 q3 : Addr} {u0 u1 u2 u3 v0 v1 v2 v3 : Value} (c0 : w.cell? p0 = some u0) (c1 : w.cell? p1 = some u1) (c2 : w.cell? p2 = some u2) (c3 : w.cell? p3 = some u3)
    (d0 : w.cell? q0 = some v0) (d1 : w.cell? q1 = some v1) (d2 : w.cell? q2 = some v2) (d3 : w.cell? q3 = some v3) :
    Below w.heap.size w w' ∧ w'.cell? p0 = some u0 ∧ w'.cell? p1 = some u1 ∧ w'.cell? p2 = some u2 ∧ w'.cell? p3 = some u3 ∧ w'.cell? q0 = some v0 ∧ w'.cell? q1 = some v1 ∧ w'.cell? q2 = some v2 ∧ w'.cell? q3 = some v3 :=
  have k : ∀ {p : Addr} {u : Value}, w.cell? p = some u → w'.cell? p = some u := fun {p} {_} h => (hb.cell (World.block_lt_of_cell? w p h)).trans h
  ⟨hb, k c0, k c1, k c2, k c3, k d0, k d1, k d2, k d3⟩

theorem both_els {w : World} {base g cap : Nat} {a b : List CE} (h : w.ownsRow base 24 4 (.slice (some ⟨g, 0, none⟩) (a.length + b.length) cap) (a.length + b.length) (a.flatMap cellsE ++ b.flatMap cellsE)) {B : Nat} {A1 A2 : Option Addr} {n1 n2 : Nat}
    (h1 : Els w B A1 n1 a) (h2 : Els w B A2 n2 b) (hB : B ≤ w.heap.size) (n : Nat) (hn : n = a.length + b.length) : Els w w.heap.size (some ⟨g, 0, none⟩) n (a ++ b) := by
  subst hn
  refine ⟨by simp, by rw [List.flatMap_append]; exact Reads.of_own h, fun e he => ?_⟩
  rcases List.mem_append.1 he with he | he
  · exact Reads.more (h1.2.2 e he) hB
  · exact Reads.more (h2.2.2 e he) hB

theorem els_nil (w : World) (B : Nat) : Els w B none 0 [] := ⟨rfl, Reads.none_, fun e he => by cases he⟩

theorem Elo.els {w : World} {base : Nat} {A : Option Addr} {n c : Nat} {es : List CE} (h : Elo w base (.slice A n c) es) : n = es.length ∧ Els w w.heap.size A n es := by
  have hn : n = es.length := by
    rcases h.1.2 with ⟨hv, hz⟩ | ⟨g, cap, cur, hv, _⟩
    · injection hv with h1 h2 h3; omega
    · injection hv
  subst hn
  exact ⟨rfl, rfl, Reads.of_own h.1, fun e he => Reads.of_own (h.2 e he)⟩
theorem Elo.below {w w' : World} {b : Nat} {v : Value} {fs : List CE} (h : Elo w b v fs) (hb : Below w.heap.size w w') : Elo w' b v fs :=
  ⟨own_below h.1 hb, fun e he => own_below (h.2 e he) hb⟩

theorem n_small {w : World} {B : Nat} {A : Option Addr} {n : Nat} {es : List CE} (h : Els w B A n es) (hp : fodderP es) : n ≤ 100 ∧ ∀ e ∈ es, e.n ≤ 20 := by
  refine ⟨by have := hp.1; rw [h.1] at this; exact this, fun e he => ?_⟩
  have h1 := (h.2.2 e he).len
  obtain ⟨j, hj, rfl⟩ := List.getElem_of_mem he
  have h2 := ok_facts (e := es[j].say) (hp.2 j _ (List.getElem?_eq_getElem hj)).1
  simp only [CE.say] at h2
  omega

set_option maxRecDepth 100000 in
set_option linter.unusedSimpArgs false in
set_option maxHeartbeats 3200000 in
theorem fodderConcat_walk (A1 A2 : Option Addr) (n1 c1 n2 c2 : Nat) (a b : List CE) (w : World) (h1 : Els w w.heap.size A1 n1 a) (h2 : Els w w.heap.size A2 n2 b) (hn1 : n1 ≤ maxLen) (hn2 : n2 ≤ maxLen) (s1 : Sound a) (s2 : Sound b) :
    Calls Try.prog 5 #[.slice A1 n1 c1, .slice A2 n2 c2] w fun e w' => e = .returned (.bool true) ∧ Below w.heap.size w w' := by
  have H1 := Lib.hid h1
  have H2 := Lib.hid h2
  have S1 := Lib.hid s1
  have S2 := Lib.hid s2
  have N1 := Lib.hid hn1
  have N2 := Lib.hid hn2
  clear h1 h2 s1 s2 hn1 hn2
  go_enter Try.func5, Try.ntmps5
  go_wp2_with fail
  refine (zzFits7_any A1 n1 c1 a w.heap.size _ H1.out (Nat.le_refl _) N1.out S1.out).mono ?_
  rintro e1 w1 ⟨rfl, hb1⟩
  have B1 := Lib.hid hb1
  clear hb1
  cases hF1 : fits7 a
  · go_wp2_with fail
    go_ret
    exact ⟨rfl, B1.out⟩
  go_wp2_with fail
  refine (zzFits7_any A2 n2 c2 b w.heap.size _ (H2.out.below B1.out) B1.out.size N2.out S2.out).mono ?_
  rintro e2 w2 ⟨rfl, hb2⟩
  have B2 := Lib.hid (B1.out.trans (hb2.mono B1.out.size))
  clear hb2
  cases hF2 : fits7 b
  · go_wp2_with fail
    go_ret
    exact ⟨rfl, B2.out⟩
  clear hF1 hF2
  go_wp2_with fail
  refine (lawFodder_any A1 n1 c1 a w.heap.size _ (H1.out.below B2.out) B2.out.size N1.out S1.out).mono ?_
  rintro e3 w3 ⟨⟨r3, rfl, hr3⟩, hb3⟩
  have B3 := Lib.hid (B2.out.trans (hb3.mono B2.out.size))
  have R3 := Lib.hid hr3
  clear hb3 hr3
  cases r3
  · go_wp2_with fail
    go_ret
    exact ⟨rfl, B3.out⟩
  go_wp2_with fail
  refine (lawFodder_any A2 n2 c2 b w.heap.size _ (H2.out.below B3.out) B3.out.size N2.out S2.out).mono ?_
  rintro e4 w4 ⟨⟨r4, rfl, hr4⟩, hb4⟩
  have B4 := Lib.hid (B3.out.trans (hb4.mono B3.out.size))
  have R4 := Lib.hid hr4
  clear hb4 hr4
  cases r4
  · go_wp2_with fail
    go_ret
    exact ⟨rfl, B4.out⟩
  have P1 := Lib.hid (R3.out.1 (by trivial))
  have P2 := Lib.hid (R4.out.1 (by trivial))
  clear R3 R4
  have k1 := (n_small H1.out P1.out).1
  have k2 := (n_small H2.out P2.out).1
  by_cases g1 : 50 < n1
  · go_wp2_with fail
    go_ret
    exact ⟨rfl, B4.out⟩
  by_cases g2 : 50 < n2
  · go_wp2_with fail
    go_ret
    exact ⟨rfl, B4.out⟩
  go_wp2_with fail
  refine (dull_any A1 A2 n1 c1 n2 c2 a b w.heap.size _ (H1.out.below B4.out) (H2.out.below B4.out) N1.out).mono ?_
  rintro e5 w5 ⟨⟨r5, rfl, hr5⟩, rfl⟩
  have R5 := Lib.hid hr5
  clear hr5
  cases r5
  case true =>
    go_wp2_with fail
    go_ret
    exact ⟨rfl, B4.out⟩
  have ND := Lib.hid (show ¬ dullP a b from fun h => by have := R5.out.2 h; cases this)
  clear R5
  go_wp2_with fail
  refine (implConcat_any A1 A2 n1 c1 n2 c2 a b w.heap.size _ (H1.out.below B4.out) (H2.out.below B4.out) B4.out.size (by omega) (by omega) (good_of P1.out) (good_of P2.out) (not_dull ND.out) (fun e he => by have := (n_small H1.out P1.out).2 e he; omega) (fun e he => by have := (n_small H2.out P2.out).2 e he; omega)).mono ?_
  rintro e6 w6 ⟨v6, es6, rfl, he6, hs6, hb6⟩
  obtain ⟨A6, n6, c6, rfl⟩ := own_slice he6.1
  have B6 := Lib.hid (B4.out.trans (hb6.mono B4.out.size))
  have E6 := Lib.hid he6
  have S6 := Lib.hid hs6
  clear hb6 he6 hs6
  go_wp2_with fail
  refine (implConcat_any A1 none n1 c1 0 0 a [] w.heap.size _ (H1.out.below B6.out) (els_nil _ _) B6.out.size (by omega) (by omega) (good_of P1.out) (fun e he => by cases he) (fun _ b0 hb0 => by cases hb0) (fun e he => by have := (n_small H1.out P1.out).2 e he; omega) (fun e he => by cases he)).mono ?_
  rintro e7 w7 ⟨v7, es7, rfl, he7, hs7, hb7⟩
  obtain ⟨A7, n7, c7, rfl⟩ := own_slice he7.1
  have B7 := Lib.hid (B6.out.trans (hb7.mono B6.out.size))
  have E7 := Lib.hid he7
  have S7 := Lib.hid hs7
  have E6' := Lib.hid (E6.out.below hb7)
  clear hb7 he7 hs7 E6
  go_wp2_with fail
  refine (implConcat_any none A2 0 0 n2 c2 [] b w.heap.size _ (els_nil _ _) (H2.out.below B7.out) B7.out.size (by omega) (by omega) (fun e he => by cases he) (good_of P2.out) (fun _ b0 _ hne => absurd rfl hne) (fun e he => by cases he) (fun e he => by have := (n_small H2.out P2.out).2 e he; omega)).mono ?_
  rintro e8 w8 ⟨v8, es8, rfl, he8, hs8, hb8⟩
  obtain ⟨A8, n8, c8, rfl⟩ := own_slice he8.1
  have B8 := Lib.hid (B7.out.trans (hb8.mono B7.out.size))
  have E8 := Lib.hid he8
  have S8 := Lib.hid hs8
  have E7' := Lib.hid (E7.out.below hb8)
  have E6 := Lib.hid (E6'.out.below hb8)
  clear hb8 he8 hs8 E6' E7
  go_wp2_with fail
  have q6 := E6.out.els
  have q7 := E7'.out.els
  have q8 := E8.out.els
  have T6 := Lib.hid (say_small H1.out H2.out P1.out P2.out ND.out S6.out (Elo.len E6.out) (by have := H1.out.1; omega) (by have := H2.out.1; omega))
  have l6 : n6 ≤ 200 := by
    have h1 := concatS_len (a.map CE.say) (b.map CE.say)
    have h2 := congrArg List.length S6.out
    have h3 := H1.out.1
    have h4 := H2.out.1
    simp at h1 h2
    omega
  have l7 : n7 = n1 := by
    have h2 := congrArg List.length S7.out
    rw [List.map_nil, concatS_right] at h2
    have h3 := H1.out.1
    simp at h2
    omega
  have l8 : n8 = n2 := by
    have h2 := congrArg List.length S8.out
    rw [List.map_nil, concatS_left] at h2
    have h3 := H2.out.1
    simp at h2
    omega
  have Q6 := Lib.hid q6.2
  have Q7 := Lib.hid q7.2
  have Q8 := Lib.hid q8.2
  clear q6 q7 q8
  refine (still_any A6 n6 c6 es6 w8.heap.size _ Q6.out (Nat.le_refl _) (by omega) T6.out.2).mono ?_
  rintro e9 w9 ⟨⟨r9, rfl, hr9⟩, hb9⟩
  have B9 := Lib.hid (B8.out.trans (hb9.mono B8.out.size))
  have R9 := Lib.hid (hr9.2 T6.out.1)
  have Q6' := Lib.hid ((Q6.out.below hb9).more hb9.size)
  have Q7' := Lib.hid ((Q7.out.below hb9).more hb9.size)
  have Q8' := Lib.hid ((Q8.out.below hb9).more hb9.size)
  clear hb9 hr9 Q6 Q7 Q8 E6 E7' E8
  cases r9
  · exact absurd R9.out (by simp)
  clear R9
  subst l7 l8
  go_wp2_with fail
  refine (sameFodder_true A7 A1 n7 c7 c1 es7 a w9.heap.size _ Q7'.out ((H1.out.below B9.out).more B9.out.size) (Nat.le_refl _) N1.out (by rw [S7.out, List.map_nil, concatS_right]) (fun e he => ?_)).mono ?_
  · have h1 := (Q7'.out.2.2 e he).len
    have h2 := say_lens S7.out (by rw [List.map_nil, concatS_right]) P1.out e he
    omega
  rintro e10 w10 ⟨rfl, hb10⟩
  have B10 := Lib.hid (B9.out.trans (hb10.mono B9.out.size))
  have Q6 := Lib.hid ((Q6'.out.below hb10).more hb10.size)
  have Q8 := Lib.hid ((Q8'.out.below hb10).more hb10.size)
  clear hb10 Q6' Q7' Q8'
  go_wp2_with fail
  refine (sameFodder_true A8 A2 n8 c8 c2 es8 b w10.heap.size _ Q8.out ((H2.out.below B10.out).more B10.out.size) (Nat.le_refl _) N2.out (by rw [S8.out, List.map_nil, concatS_left]) (fun e he => ?_)).mono ?_
  · have h1 := (Q8.out.2.2 e he).len
    have h2 := say_lens S8.out (by rw [List.map_nil, concatS_left]) P2.out e he
    omega
  rintro e11 w11 ⟨rfl, hb11⟩
  have B11 := Lib.hid (B10.out.trans (hb11.mono B10.out.size))
  have Q6' := Lib.hid ((Q6.out.below hb11).more hb11.size)
  clear hb11 Q6 Q8
  go_wp2_with fail
  have QA := Lib.hid ((H1.out.below B11.out).more B11.out.size)
  have QB := Lib.hid ((H2.out.below B11.out).more B11.out.size)
  have SE6 := Lib.hid (fun e he => (T6.out.2 e he).1 : ∀ e ∈ es6, e.n ≤ maxLen)
  have SAY6 := Lib.hid S6.out
  have EN6 := Lib.hid (small_n T6.out Q6'.out)
  clear T6 S6 S7 S8
  by_cases hz : n7 = 0
  · subst hz
    have hsay6 : es6.map CE.say = (a ++ b).map CE.say := by
      rw [SAY6.out, List.map_append]
      refine concat_both_say _ _ fun x' y' hx' hy' => ?_
      have h1 := (List.getElem?_eq_some_iff.1 hx').1
      have h2 := (List.getElem?_eq_some_iff.1 hy').1
      have h3 := H1.out.1
      have h4 := H2.out.1
      simp only [List.length_map] at h1 h2
      omega
    have hn6 : n6 = a.length + b.length := by
      have h1 := congrArg List.length hsay6
      have h2 := Q6'.out.1
      simp only [List.length_map, List.length_append] at h1
      omega
    have HSAY6 := Lib.hid hsay6
    have ha50 : a.length ≤ 50 := by have := H1.out.1; omega
    have hb50 : b.length ≤ 50 := by have := H2.out.1; omega
    clear hsay6
    subst hn6
    refine wp_region_held_drew (S := fun w' => Below w11.heap.size w11 w') (by kernel_rfl) (Below.refl _ _).drew (fun hHeld => ?_)
    refine wpAnyH_take (i := 0) (v := ?_) rfl (by kernel_rfl) (by kernel_rfl) (by kernel_rfl) (fun _ _ _ h => h) (Or.inl ⟨by kernel_rfl, ?_⟩) hHeld ?_
    rotate_left
    · intro w' _
      go_simp
      try with_reducible rfl
    simp only [Act.put, List.setIfInBounds_toArray, List.set_cons_zero, List.set_cons_succ]
    refine wpAnyH_take (i := 1) (v := ?_) rfl (by kernel_rfl) (by kernel_rfl) (by kernel_rfl) (fun _ _ _ h => h) (Or.inl ⟨by kernel_rfl, ?_⟩) hHeld ?_
    rotate_left
    · intro w' _
      go_simp
      try with_reducible rfl
    simp only [Act.put, List.setIfInBounds_toArray, List.set_cons_zero, List.set_cons_succ]
    refine wpAnyH_take (i := 2) (v := ?_) rfl (by kernel_rfl) (by kernel_rfl) (by kernel_rfl) (fun _ _ _ h => h) (Or.inl ⟨by kernel_rfl, ?_⟩) hHeld ?_
    rotate_left
    · intro w' _
      go_simp
      try with_reducible rfl
    simp only [Act.put, List.setIfInBounds_toArray, List.set_cons_zero, List.set_cons_succ]
    refine wpAnyH_take (i := 3) (v := ?_) rfl (by kernel_rfl) (by kernel_rfl) (by kernel_rfl) (fun _ _ _ h => h) (Or.inl ⟨by kernel_rfl, ?_⟩) hHeld ?_
    rotate_left
    · intro w' _
      go_simp
      try with_reducible rfl
    simp only [Act.put, List.setIfInBounds_toArray, List.set_cons_zero, List.set_cons_succ]
    refine wpAnyH_take (i := 4) (v := undef) rfl (by kernel_rfl) (by kernel_rfl) (by kernel_rfl) (fun _ _ _ h => h) (Or.inr ⟨by kernel_rfl, by kernel_rfl⟩) hHeld ?_
    simp only [Act.put, List.setIfInBounds_toArray, List.set_cons_zero, List.set_cons_succ]
    refine wpAnyH_take (i := 5) (v := undef) rfl (by kernel_rfl) (by kernel_rfl) (by kernel_rfl) (fun _ _ _ h => h) (Or.inr ⟨by kernel_rfl, by kernel_rfl⟩) hHeld ?_
    simp only [Act.put, List.setIfInBounds_toArray, List.set_cons_zero, List.set_cons_succ]
    refine wpAnyH_take (i := 6) (v := undef) rfl (by kernel_rfl) (by kernel_rfl) (by kernel_rfl) (fun _ _ _ h => h) (Or.inr ⟨by kernel_rfl, by kernel_rfl⟩) hHeld ?_
    simp only [Act.put, List.setIfInBounds_toArray, List.set_cons_zero, List.set_cons_succ]
    refine wpAnyH_take (i := 7) (v := ?_) rfl (by kernel_rfl) (by kernel_rfl) (by kernel_rfl) (fun _ _ _ h => h) (Or.inl ⟨by kernel_rfl, ?_⟩) hHeld ?_
    rotate_left
    · intro w' _
      go_simp
      try with_reducible rfl
    simp only [Act.put, List.setIfInBounds_toArray, List.set_cons_zero, List.set_cons_succ]
    refine wpAnyH_take (i := 8) (v := ?_) rfl (by kernel_rfl) (by kernel_rfl) (by kernel_rfl) (fun _ _ _ h => h) (Or.inl ⟨by kernel_rfl, ?_⟩) hHeld ?_
    rotate_left
    · intro w' _
      go_simp
      try with_reducible rfl
    simp only [Act.put, List.setIfInBounds_toArray, List.set_cons_zero, List.set_cons_succ]
    refine wpAnyH_take (i := 9) (v := undef) rfl (by kernel_rfl) (by kernel_rfl) (by kernel_rfl) (fun _ _ _ h => h) (Or.inr ⟨by kernel_rfl, by kernel_rfl⟩) hHeld ?_
    simp only [Act.put, List.setIfInBounds_toArray, List.set_cons_zero, List.set_cons_succ]
    refine wpAnyH_take (i := 10) (v := undef) rfl (by kernel_rfl) (by kernel_rfl) (by kernel_rfl) (fun _ _ _ h => h) (Or.inr ⟨by kernel_rfl, by kernel_rfl⟩) hHeld ?_
    simp only [Act.put, List.setIfInBounds_toArray, List.set_cons_zero, List.set_cons_succ]
    refine wpAnyH_take (i := 11) (v := undef) rfl (by kernel_rfl) (by kernel_rfl) (by kernel_rfl) (fun _ _ _ h => h) (Or.inr ⟨by kernel_rfl, by kernel_rfl⟩) hHeld ?_
    simp only [Act.put, List.setIfInBounds_toArray, List.set_cons_zero, List.set_cons_succ]
    refine wpAnyH_take (i := 12) (v := undef) rfl (by kernel_rfl) (by kernel_rfl) (by kernel_rfl) (fun _ _ _ h => h) (Or.inr ⟨by kernel_rfl, by kernel_rfl⟩) hHeld ?_
    simp only [Act.put, List.setIfInBounds_toArray, List.set_cons_zero, List.set_cons_succ]
    refine wpAnyH_take (i := 13) (v := undef) rfl (by kernel_rfl) (by kernel_rfl) (by kernel_rfl) (fun _ _ _ h => h) (Or.inr ⟨by kernel_rfl, by kernel_rfl⟩) hHeld ?_
    simp only [Act.put, List.setIfInBounds_toArray, List.set_cons_zero, List.set_cons_succ]
    refine wpAnyH_take (i := 14) (v := undef) rfl (by kernel_rfl) (by kernel_rfl) (by kernel_rfl) (fun _ _ _ h => h) (Or.inr ⟨by kernel_rfl, by kernel_rfl⟩) hHeld ?_
    simp only [Act.put, List.setIfInBounds_toArray, List.set_cons_zero, List.set_cons_succ]
    refine wpAnyH_take (i := 15) (v := undef) rfl (by kernel_rfl) (by kernel_rfl) (by kernel_rfl) (fun _ _ _ h => h) (Or.inr ⟨by kernel_rfl, by kernel_rfl⟩) hHeld ?_
    simp only [Act.put, List.setIfInBounds_toArray, List.set_cons_zero, List.set_cons_succ]
    refine wpAnyH_take (i := 16) (v := undef) rfl (by kernel_rfl) (by kernel_rfl) (by kernel_rfl) (fun _ _ _ h => h) (Or.inr ⟨by kernel_rfl, by kernel_rfl⟩) hHeld ?_
    simp only [Act.put, List.setIfInBounds_toArray, List.set_cons_zero, List.set_cons_succ]
    refine wpAnyH_take (i := 17) (v := undef) rfl (by kernel_rfl) (by kernel_rfl) (by kernel_rfl) (fun _ _ _ h => h) (Or.inr ⟨by kernel_rfl, by kernel_rfl⟩) hHeld ?_
    simp only [Act.put, List.setIfInBounds_toArray, List.set_cons_zero, List.set_cons_succ]
    refine wpAnyH_take (i := 18) (v := undef) rfl (by kernel_rfl) (by kernel_rfl) (by kernel_rfl) (fun _ _ _ h => h) (Or.inr ⟨by kernel_rfl, by kernel_rfl⟩) hHeld ?_
    simp only [Act.put, List.setIfInBounds_toArray, List.set_cons_zero, List.set_cons_succ]
    refine wpAnyH_take (i := 19) (v := undef) rfl (by kernel_rfl) (by kernel_rfl) (by kernel_rfl) (fun _ _ _ h => h) (Or.inr ⟨by kernel_rfl, by kernel_rfl⟩) hHeld ?_
    simp only [Act.put, List.setIfInBounds_toArray, List.set_cons_zero, List.set_cons_succ]
    refine wpAnyH_take (i := 20) (v := ?_) rfl (by kernel_rfl) (by kernel_rfl) (by kernel_rfl) (fun _ _ _ h => h) (Or.inl ⟨by kernel_rfl, ?_⟩) hHeld ?_
    rotate_left
    · intro w' _
      go_simp
      try with_reducible rfl
    simp only [Act.put, List.setIfInBounds_toArray, List.set_cons_zero, List.set_cons_succ]
    refine wpAnyH_take (i := 21) (v := ?_) rfl (by kernel_rfl) (by kernel_rfl) (by kernel_rfl) (fun _ _ _ h => h) (Or.inl ⟨by kernel_rfl, ?_⟩) hHeld ?_
    rotate_left
    · intro w' _
      go_simp
      try with_reducible rfl
    simp only [Act.put, List.setIfInBounds_toArray, List.set_cons_zero, List.set_cons_succ]
    refine wpAnyH_take (i := 22) (v := ?_) rfl (by kernel_rfl) (by kernel_rfl) (by kernel_rfl) (fun _ _ _ h => h) (Or.inl ⟨by kernel_rfl, ?_⟩) hHeld ?_
    rotate_left
    · intro w' _
      go_simp
      try with_reducible rfl
    simp only [Act.put, List.setIfInBounds_toArray, List.set_cons_zero, List.set_cons_succ]
    refine wpAnyH_take (i := 23) (v := ?_) rfl (by kernel_rfl) (by kernel_rfl) (by kernel_rfl) (fun _ _ _ h => h) (Or.inl ⟨by kernel_rfl, ?_⟩) hHeld ?_
    rotate_left
    · intro w' _
      go_simp
      try with_reducible rfl
    simp only [Act.put, List.setIfInBounds_toArray, List.set_cons_zero, List.set_cons_succ]
    refine wpAnyH_take (i := 24) (v := ?_) rfl (by kernel_rfl) (by kernel_rfl) (by kernel_rfl) (fun _ _ _ h => h) (Or.inl ⟨by kernel_rfl, ?_⟩) hHeld ?_
    rotate_left
    · intro w' _
      go_simp
      try with_reducible rfl
    simp only [Act.put, List.setIfInBounds_toArray, List.set_cons_zero, List.set_cons_succ]
    refine wpAnyH_ready (rs := [25]) (by kernel_rfl) (by simp) ?_
    refine AllReadyH.cons rfl (fun K hK => ?_) AllReadyH.nil
    go_simp
    refine (bothOf_any A1 A2 0 c1 n8 c2 a b w11.heap.size _ (QA.out.below hHeld) (QB.out.below hHeld) hHeld.size (by omega) (by omega)).mono ?_
    rintro e13 w13 ⟨g13, cap13, rfl, hown13, hb13'⟩
    try go_wp2_with fail
    refine hK.out _ _ (hHeld.trans (hb13'.mono hHeld.size)) (fun hHeld => ?_)
    clear hK K
    try simp only [Act.put, List.setIfInBounds_toArray, List.set_cons_zero, List.set_cons_succ]
    have HREAD13 := both_els hown13 (QA.out.below hHeld) (QB.out.below hHeld) hHeld.size _ rfl
    refine wpAnyH_ready (rs := [26]) (by kernel_rfl) (by simp) ?_
    refine AllReadyH.cons rfl (fun K hK => ?_) AllReadyH.nil
    go_simp
    refine (sameFodder_true A6 (some ⟨g13, 0, none⟩) (a.length + b.length) c6 cap13 es6 (a ++ b) w13.heap.size w13 ((Q6'.out.below hHeld).more hHeld.size) HREAD13 (Nat.le_refl _) (by unfold maxLen; omega) HSAY6.out EN6.out).mono ?_
    rintro e14 w14 ⟨rfl, hb14⟩
    try go_wp2_with fail
    refine hK.out _ _ (hHeld.trans (hb14.mono hHeld.size)) (fun hHeld => ?_)
    clear hK K
    try simp only [Act.put, List.setIfInBounds_toArray, List.set_cons_zero, List.set_cons_succ]
    refine wpAnyH_take (i := 27) (v := ?_) rfl (by kernel_rfl) (by kernel_rfl) (by kernel_rfl) (fun _ _ _ h => h) (Or.inl ⟨by kernel_rfl, ?_⟩) hHeld ?_
    rotate_left
    · intro w' _
      go_simp
      try with_reducible rfl
    simp only [Act.put, List.setIfInBounds_toArray, List.set_cons_zero, List.set_cons_succ]
    refine wpAnyH_take (i := 28) (v := ?_) rfl (by kernel_rfl) (by kernel_rfl) (by kernel_rfl) (fun _ _ _ h => h) (Or.inl ⟨by kernel_rfl, ?_⟩) hHeld ?_
    rotate_left
    · intro w' _
      go_simp
      try with_reducible rfl
    simp only [Act.put, List.setIfInBounds_toArray, List.set_cons_zero, List.set_cons_succ]
    refine wpAnyH_done (by kernel_rfl) ?_ _
    go_wp2_with fail
    go_ret
    rename_i d28 e28 o27 d27 e27
    obtain rfl : (112 : Tmp) = d27 := Option.some.inj e27
    obtain rfl : (4 : Tmp) = d28 := Option.some.inj e28
    exact ⟨rfl, B11.out.trans (hHeld.mono B11.out.size)⟩
  by_cases hz8 : n8 = 0
  · subst hz8
    have hp7 : (0 : Int) < (n7 : Int) := by omega
    have hsay6 : es6.map CE.say = (a ++ b).map CE.say := by
      rw [SAY6.out, List.map_append]
      refine concat_both_say _ _ fun x' y' hx' hy' => ?_
      have h1 := (List.getElem?_eq_some_iff.1 hx').1
      have h2 := (List.getElem?_eq_some_iff.1 hy').1
      have h3 := H1.out.1
      have h4 := H2.out.1
      simp only [List.length_map] at h1 h2
      omega
    have hn6 : n6 = a.length + b.length := by
      have h1 := congrArg List.length hsay6
      have h2 := Q6'.out.1
      simp only [List.length_map, List.length_append] at h1
      omega
    have HSAY6 := Lib.hid hsay6
    have ha50 : a.length ≤ 50 := by have := H1.out.1; omega
    have hb50 : b.length ≤ 50 := by have := H2.out.1; omega
    clear hsay6
    subst hn6
    refine wp_region_held_drew (S := fun w' => Below w11.heap.size w11 w') (by kernel_rfl) (Below.refl _ _).drew (fun hHeld => ?_)
    refine wpAnyH_take (i := 0) (v := ?_) rfl (by kernel_rfl) (by kernel_rfl) (by kernel_rfl) (fun _ _ _ h => h) (Or.inl ⟨by kernel_rfl, ?_⟩) hHeld ?_
    rotate_left
    · intro w' _
      go_simp
      try with_reducible rfl
    simp only [Act.put, List.setIfInBounds_toArray, List.set_cons_zero, List.set_cons_succ]
    refine wpAnyH_take (i := 1) (v := ?_) rfl (by kernel_rfl) (by kernel_rfl) (by kernel_rfl) (fun _ _ _ h => h) (Or.inl ⟨by kernel_rfl, ?_⟩) hHeld ?_
    rotate_left
    · intro w' _
      go_simp
      try with_reducible rfl
    simp only [Act.put, List.setIfInBounds_toArray, List.set_cons_zero, List.set_cons_succ]
    refine wpAnyH_take (i := 2) (v := .bool true) rfl (by kernel_rfl) (by kernel_rfl) (by kernel_rfl) (fun _ _ _ h => h) (Or.inl ⟨by kernel_rfl, ?_⟩) hHeld ?_
    · intro w' _
      go_simp
      omega
    simp only [Act.put, List.setIfInBounds_toArray, List.set_cons_zero, List.set_cons_succ]
    refine wpAnyH_take (i := 3) (v := ?_) rfl (by kernel_rfl) (by kernel_rfl) (by kernel_rfl) (fun _ _ _ h => h) (Or.inl ⟨by kernel_rfl, ?_⟩) hHeld ?_
    rotate_left
    · intro w' _
      go_simp
      try with_reducible rfl
    simp only [Act.put, List.setIfInBounds_toArray, List.set_cons_zero, List.set_cons_succ]
    refine wpAnyH_take (i := 4) (v := ?_) rfl (by kernel_rfl) (by kernel_rfl) (by kernel_rfl) (fun _ _ _ h => h) (Or.inl ⟨by kernel_rfl, ?_⟩) hHeld ?_
    rotate_left
    · intro w' _
      go_simp
      try with_reducible rfl
    simp only [Act.put, List.setIfInBounds_toArray, List.set_cons_zero, List.set_cons_succ]
    refine wpAnyH_take (i := 5) (v := ?_) rfl (by kernel_rfl) (by kernel_rfl) (by kernel_rfl) (fun _ _ _ h => h) (Or.inl ⟨by kernel_rfl, ?_⟩) hHeld ?_
    rotate_left
    · intro w' _
      go_simp
      try with_reducible rfl
    simp only [Act.put, List.setIfInBounds_toArray, List.set_cons_zero, List.set_cons_succ]
    refine wpAnyH_take (i := 6) (v := ?_) rfl (by kernel_rfl) (by kernel_rfl) (by kernel_rfl) (fun _ _ _ h => h) (Or.inl ⟨by kernel_rfl, ?_⟩) hHeld ?_
    rotate_left
    · intro w' _
      go_simp
      try with_reducible rfl
    simp only [Act.put, List.setIfInBounds_toArray, List.set_cons_zero, List.set_cons_succ]
    refine wpAnyH_take (i := 7) (v := ?_) rfl (by kernel_rfl) (by kernel_rfl) (by kernel_rfl) (fun _ _ _ h => h) (Or.inl ⟨by kernel_rfl, ?_⟩) hHeld ?_
    rotate_left
    · intro w' _
      go_simp
      try with_reducible rfl
    simp only [Act.put, List.setIfInBounds_toArray, List.set_cons_zero, List.set_cons_succ]
    refine wpAnyH_take (i := 8) (v := ?_) rfl (by kernel_rfl) (by kernel_rfl) (by kernel_rfl) (fun _ _ _ h => h) (Or.inl ⟨by kernel_rfl, ?_⟩) hHeld ?_
    rotate_left
    · intro w' _
      go_simp
      try with_reducible rfl
    simp only [Act.put, List.setIfInBounds_toArray, List.set_cons_zero, List.set_cons_succ]
    refine wpAnyH_take (i := 9) (v := undef) rfl (by kernel_rfl) (by kernel_rfl) (by kernel_rfl) (fun _ _ _ h => h) (Or.inr ⟨by kernel_rfl, by kernel_rfl⟩) hHeld ?_
    simp only [Act.put, List.setIfInBounds_toArray, List.set_cons_zero, List.set_cons_succ]
    refine wpAnyH_take (i := 10) (v := undef) rfl (by kernel_rfl) (by kernel_rfl) (by kernel_rfl) (fun _ _ _ h => h) (Or.inr ⟨by kernel_rfl, by kernel_rfl⟩) hHeld ?_
    simp only [Act.put, List.setIfInBounds_toArray, List.set_cons_zero, List.set_cons_succ]
    refine wpAnyH_take (i := 11) (v := undef) rfl (by kernel_rfl) (by kernel_rfl) (by kernel_rfl) (fun _ _ _ h => h) (Or.inr ⟨by kernel_rfl, by kernel_rfl⟩) hHeld ?_
    simp only [Act.put, List.setIfInBounds_toArray, List.set_cons_zero, List.set_cons_succ]
    refine wpAnyH_take (i := 12) (v := undef) rfl (by kernel_rfl) (by kernel_rfl) (by kernel_rfl) (fun _ _ _ h => h) (Or.inr ⟨by kernel_rfl, by kernel_rfl⟩) hHeld ?_
    simp only [Act.put, List.setIfInBounds_toArray, List.set_cons_zero, List.set_cons_succ]
    refine wpAnyH_take (i := 13) (v := undef) rfl (by kernel_rfl) (by kernel_rfl) (by kernel_rfl) (fun _ _ _ h => h) (Or.inr ⟨by kernel_rfl, by kernel_rfl⟩) hHeld ?_
    simp only [Act.put, List.setIfInBounds_toArray, List.set_cons_zero, List.set_cons_succ]
    refine wpAnyH_take (i := 14) (v := undef) rfl (by kernel_rfl) (by kernel_rfl) (by kernel_rfl) (fun _ _ _ h => h) (Or.inr ⟨by kernel_rfl, by kernel_rfl⟩) hHeld ?_
    simp only [Act.put, List.setIfInBounds_toArray, List.set_cons_zero, List.set_cons_succ]
    refine wpAnyH_take (i := 15) (v := undef) rfl (by kernel_rfl) (by kernel_rfl) (by kernel_rfl) (fun _ _ _ h => h) (Or.inr ⟨by kernel_rfl, by kernel_rfl⟩) hHeld ?_
    simp only [Act.put, List.setIfInBounds_toArray, List.set_cons_zero, List.set_cons_succ]
    refine wpAnyH_take (i := 16) (v := undef) rfl (by kernel_rfl) (by kernel_rfl) (by kernel_rfl) (fun _ _ _ h => h) (Or.inr ⟨by kernel_rfl, by kernel_rfl⟩) hHeld ?_
    simp only [Act.put, List.setIfInBounds_toArray, List.set_cons_zero, List.set_cons_succ]
    refine wpAnyH_take (i := 17) (v := undef) rfl (by kernel_rfl) (by kernel_rfl) (by kernel_rfl) (fun _ _ _ h => h) (Or.inr ⟨by kernel_rfl, by kernel_rfl⟩) hHeld ?_
    simp only [Act.put, List.setIfInBounds_toArray, List.set_cons_zero, List.set_cons_succ]
    refine wpAnyH_take (i := 18) (v := undef) rfl (by kernel_rfl) (by kernel_rfl) (by kernel_rfl) (fun _ _ _ h => h) (Or.inr ⟨by kernel_rfl, by kernel_rfl⟩) hHeld ?_
    simp only [Act.put, List.setIfInBounds_toArray, List.set_cons_zero, List.set_cons_succ]
    refine wpAnyH_take (i := 19) (v := undef) rfl (by kernel_rfl) (by kernel_rfl) (by kernel_rfl) (fun _ _ _ h => h) (Or.inr ⟨by kernel_rfl, by kernel_rfl⟩) hHeld ?_
    simp only [Act.put, List.setIfInBounds_toArray, List.set_cons_zero, List.set_cons_succ]
    refine wpAnyH_take (i := 20) (v := ?_) rfl (by kernel_rfl) (by kernel_rfl) (by kernel_rfl) (fun _ _ _ h => h) (Or.inl ⟨by kernel_rfl, ?_⟩) hHeld ?_
    rotate_left
    · intro w' _
      go_simp
      try with_reducible rfl
    simp only [Act.put, List.setIfInBounds_toArray, List.set_cons_zero, List.set_cons_succ]
    refine wpAnyH_take (i := 21) (v := ?_) rfl (by kernel_rfl) (by kernel_rfl) (by kernel_rfl) (fun _ _ _ h => h) (Or.inl ⟨by kernel_rfl, ?_⟩) hHeld ?_
    rotate_left
    · intro w' _
      go_simp
      try with_reducible rfl
    simp only [Act.put, List.setIfInBounds_toArray, List.set_cons_zero, List.set_cons_succ]
    refine wpAnyH_take (i := 22) (v := ?_) rfl (by kernel_rfl) (by kernel_rfl) (by kernel_rfl) (fun _ _ _ h => h) (Or.inl ⟨by kernel_rfl, ?_⟩) hHeld ?_
    rotate_left
    · intro w' _
      go_simp
      try with_reducible rfl
    simp only [Act.put, List.setIfInBounds_toArray, List.set_cons_zero, List.set_cons_succ]
    refine wpAnyH_take (i := 23) (v := ?_) rfl (by kernel_rfl) (by kernel_rfl) (by kernel_rfl) (fun _ _ _ h => h) (Or.inl ⟨by kernel_rfl, ?_⟩) hHeld ?_
    rotate_left
    · intro w' _
      go_simp
      try with_reducible rfl
    simp only [Act.put, List.setIfInBounds_toArray, List.set_cons_zero, List.set_cons_succ]
    refine wpAnyH_take (i := 24) (v := ?_) rfl (by kernel_rfl) (by kernel_rfl) (by kernel_rfl) (fun _ _ _ h => h) (Or.inl ⟨by kernel_rfl, ?_⟩) hHeld ?_
    rotate_left
    · intro w' _
      go_simp
      try with_reducible rfl
    simp only [Act.put, List.setIfInBounds_toArray, List.set_cons_zero, List.set_cons_succ]
    refine wpAnyH_ready (rs := [25]) (by kernel_rfl) (by simp) ?_
    refine AllReadyH.cons rfl (fun K hK => ?_) AllReadyH.nil
    go_simp
    refine (bothOf_any A1 A2 n7 c1 0 c2 a b w11.heap.size _ (QA.out.below hHeld) (QB.out.below hHeld) hHeld.size (by omega) (by omega)).mono ?_
    rintro e13 w13 ⟨g13, cap13, rfl, hown13, hb13'⟩
    try go_wp2_with fail
    refine hK.out _ _ (hHeld.trans (hb13'.mono hHeld.size)) (fun hHeld => ?_)
    clear hK K
    try simp only [Act.put, List.setIfInBounds_toArray, List.set_cons_zero, List.set_cons_succ]
    have HREAD13 := both_els hown13 (QA.out.below hHeld) (QB.out.below hHeld) hHeld.size _ rfl
    refine wpAnyH_ready (rs := [26]) (by kernel_rfl) (by simp) ?_
    refine AllReadyH.cons rfl (fun K hK => ?_) AllReadyH.nil
    go_simp
    refine (sameFodder_true A6 (some ⟨g13, 0, none⟩) (a.length + b.length) c6 cap13 es6 (a ++ b) w13.heap.size w13 ((Q6'.out.below hHeld).more hHeld.size) HREAD13 (Nat.le_refl _) (by unfold maxLen; omega) HSAY6.out EN6.out).mono ?_
    rintro e14 w14 ⟨rfl, hb14⟩
    try go_wp2_with fail
    refine hK.out _ _ (hHeld.trans (hb14.mono hHeld.size)) (fun hHeld => ?_)
    clear hK K
    try simp only [Act.put, List.setIfInBounds_toArray, List.set_cons_zero, List.set_cons_succ]
    refine wpAnyH_take (i := 27) (v := ?_) rfl (by kernel_rfl) (by kernel_rfl) (by kernel_rfl) (fun _ _ _ h => h) (Or.inl ⟨by kernel_rfl, ?_⟩) hHeld ?_
    rotate_left
    · intro w' _
      go_simp
      try with_reducible rfl
    simp only [Act.put, List.setIfInBounds_toArray, List.set_cons_zero, List.set_cons_succ]
    refine wpAnyH_take (i := 28) (v := ?_) rfl (by kernel_rfl) (by kernel_rfl) (by kernel_rfl) (fun _ _ _ h => h) (Or.inl ⟨by kernel_rfl, ?_⟩) hHeld ?_
    rotate_left
    · intro w' _
      go_simp
      try with_reducible rfl
    simp only [Act.put, List.setIfInBounds_toArray, List.set_cons_zero, List.set_cons_succ]
    refine wpAnyH_done (by kernel_rfl) ?_ _
    go_wp2_with fail
    go_ret
    rename_i d28 e28 o27 d27 e27
    obtain rfl : (112 : Tmp) = d27 := Option.some.inj e27
    obtain rfl : (4 : Tmp) = d28 := Option.some.inj e28
    exact ⟨rfl, B11.out.trans (hHeld.mono B11.out.size)⟩
  · obtain ⟨m, rfl⟩ : ∃ m, n7 = m + 1 := ⟨n7 - 1, by omega⟩
    have hp8 : 0 < n8 := by omega
    clear hz hz8
    obtain ⟨b1, o1, x, hA1, _, hx, hsx, c0, c1', c2', c3⟩ := QA.out.at_ (show m < m + 1 by omega)
    obtain ⟨b2, o2, y, hA2, _, hy, hsy, d0, d1, d2, d3⟩ := QB.out.at_ (show 0 < n8 by omega)
    simp only [Nat.zero_mul, Nat.add_zero] at d0 d1 d2 d3
    subst hA1 hA2
    have i0 : (0 : Int) ≤ (m : Int) := by omega
    have i1 : (m : Int) < (m : Int) + 1 := by omega
    have i2 : (0 : Int) < (n8 : Int) := by omega
    have i3 : (0 : Int) < (m : Int) + 1 := by omega
    have i4 : IntKind.i64.wrap (m : Int) = (m : Int) := IntWalk.i64_in _ (by omega)
    have HX := Lib.hid hx
    have HY := Lib.hid hy
    clear hx hy hsx hsy
    cases hF : followsK x.k y.k
    · have HF := Lib.hid hF
      have l0 := fun x : Later w11 => Later.cell c0 x
      have l1 := fun x : Later w11 => Later.cell c1' x
      have l2 := fun x : Later w11 => Later.cell c2' x
      have l3 := fun x : Later w11 => Later.cell c3 x
      have r0 := fun x : Later w11 => Later.cell d0 x
      have r1 := fun x : Later w11 => Later.cell d1 x
      have r2 := fun x : Later w11 => Later.cell d2 x
      have r3 := fun x : Later w11 => Later.cell d3 x
      clear c0 c1' c2' c3 d0 d1 d2 d3
      refine wp_region_later (by kernel_rfl) (by kernel_rfl) ?_
      repeat (go_big_quiet_step ((go_at_call 23; exact later_call (follows_is _ x.k x.b x.i y.k y.b y.i x.A y.A x.n x.c y.n y.c HF.out _))))
      refine wpQuiet_nil ?_
      rintro w' ⟨z, rfl⟩
      go_wp2_with fail
      go_ret
      exact ⟨rfl, B11.out.trans (z.ok.mono B11.out.size)⟩
    · have HF := Lib.hid hF
      clear hF
      have hsay6 : es6.map CE.say = (a ++ b).map CE.say := by
        rw [SAY6.out, List.map_append]
        refine concat_both_say _ _ fun x' y' hx' hy' => ?_
        rw [List.length_map, List.getElem?_map, H1.out.1, Nat.add_sub_cancel, HX.out] at hx'
        rw [List.getElem?_map, HY.out] at hy'
        simp only [Option.map_some, Option.some.injEq] at hx' hy'
        rw [← hx', ← hy']
        exact HF.out
      have hn6 : n6 = a.length + b.length := by
        have h1 := congrArg List.length hsay6
        have h2 := Q6'.out.1
        simp only [List.length_map, List.length_append] at h1
        omega
      have HSAY6 := Lib.hid hsay6
      have ha50 : a.length ≤ 50 := by have := H1.out.1; omega
      have hb50 : b.length ≤ 50 := by have := H2.out.1; omega
      clear hsay6
      subst hn6
      go_region_held3 (fun w' => Below w11.heap.size w11 w' ∧ w'.cell? ⟨b1, o1 + m * 4, none⟩ = some (.int .i64 x.k) ∧ w'.cell? ⟨b1, o1 + m * 4 + 1, none⟩ = some (.int .i64 x.b) ∧ w'.cell? ⟨b1, o1 + m * 4 + 2, none⟩ = some (.int .i64 x.i) ∧ w'.cell? ⟨b1, o1 + m * 4 + 3, none⟩ = some (.slice x.A x.n x.c) ∧
          w'.cell? ⟨b2, o2, none⟩ = some (.int .i64 y.k) ∧ w'.cell? ⟨b2, o2 + 1, none⟩ = some (.int .i64 y.b) ∧ w'.cell? ⟨b2, o2 + 2, none⟩ = some (.int .i64 y.i) ∧ w'.cell? ⟨b2, o2 + 3, none⟩ = some (.slice y.A y.n y.c))
        (first
          | (exact keepHeld (Below.refl _ _).drew c0 c1' c2' c3 d0 d1 d2 d3)
          | (exact keepHeld (by first | exact hb14 | exact hb13 | exact hb12) c0 c1' c2' c3 d0 d1 d2 d3))
        (first
          | (go_at_call 23; refine (follows_is true x.k x.b x.i y.k y.b y.i x.A y.A x.n x.c y.n y.c HF.out _).mono ?_; rintro e12 w12 ⟨rfl, hb12'⟩; have hb12 : Below w11.heap.size w11 w12 := (Below.refl _ _).drew.trans hb12'; clear hb12')
          | (go_at_call 24; refine (bothOf_any (some ⟨b1, o1, none⟩) (some ⟨b2, o2, none⟩) (m + 1) c1 n8 c2 a b w11.heap.size w12 (QA.out.below hb12) (QB.out.below hb12) hb12.size (by omega) (by omega)).mono ?_; rintro e13 w13 ⟨g13, cap13, rfl, hown13, hb13'⟩; have hb13 : Below w11.heap.size w11 w13 := hb12.trans (hb13'.mono hb12.size); have HREAD13 := both_els hown13 (QA.out.below hb13) (QB.out.below hb13) hb13.size _ rfl; clear hb13' hown13)
          | (go_at_call 22; refine (sameFodder_true A6 (some ⟨g13, 0, none⟩) (a.length + b.length) c6 cap13 es6 (a ++ b) w13.heap.size w13 ((Q6'.out.below hb13).more hb13.size) HREAD13 (Nat.le_refl _) (by unfold maxLen; omega) HSAY6.out EN6.out).mono ?_; rintro e14 w14 ⟨rfl, hb14'⟩; have hb14 : Below w11.heap.size w11 w14 := hb13.trans (hb14'.mono hb13.size); clear hb14'))
      go_wp2_with fail
      go_ret
      exact ⟨rfl, B11.out.trans (hb14.mono B11.out.size)⟩
end Go.Proofs.Ythinfliplpjdjaa
