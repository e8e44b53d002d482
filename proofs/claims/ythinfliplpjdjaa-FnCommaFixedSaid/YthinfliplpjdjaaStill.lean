/-
  bothOf and still: what they hand back.
-/
import Derived.Test.YthinfliplpjdjaaLawMore
namespace Go.Proofs.Ythinfliplpjdjaa
open Go.RowKit

theorem cellsE_one (es : List CE) : ∀ u ∈ es.flatMap cellsE, u.oneCell' = true := by
  intro u hu
  obtain ⟨e, _, hu⟩ := List.mem_flatMap.1 hu
  simp only [cellsE, List.mem_cons, List.not_mem_nil, or_false] at hu
  rcases hu with rfl | rfl | rfl | rfl <;> rfl
theorem len_cellsE (es : List CE) : (es.flatMap cellsE).length = es.length * 4 := by
  induction es with
  | nil => rfl
  | cons x r ih => rw [List.flatMap_cons, List.length_append, ih]; simp [cellsE]; omega

def BothPost (a b : List CE) (w : World) (e : Ending) (w' : World) : Prop :=
  ∃ g cap, e = .returned (.slice (some ⟨g, 0, none⟩) (a.length + b.length) cap) ∧ w'.ownsRow w.heap.size 24 4 (.slice (some ⟨g, 0, none⟩) (a.length + b.length) cap) (a.length + b.length) (a.flatMap cellsE ++ b.flatMap cellsE) ∧ Below w.heap.size w w'

set_option maxRecDepth 100000 in
set_option maxHeartbeats 800000 in
theorem bothOf_any (A1 A2 : Option Addr) (n1 c1 n2 c2 : Nat) (a b : List CE) (B : Nat) (w : World) (h1 : Els w B A1 n1 a) (h2 : Els w B A2 n2 b) (hB : B ≤ w.heap.size) (hn1 : n1 ≤ 2147483647) (hn2 : n2 ≤ 2147483647) :
    Calls Try.prog 24 #[.slice A1 n1 c1, .slice A2 n2 c2] w (BothPost a b w) := by
  have H1 := Lib.hid h1
  have H2 := Lib.hid h2
  have L1 := Lib.hid h1.1
  have L2 := Lib.hid h2.1
  clear h1 h2
  obtain ⟨i24, hi, hz, hs, hb⟩ := info_parts info_el
  go_enter Try.func24, Try.ntmps24
  go_wp2_with (first
    | (at_builtin; refine wpList_append_x _ rfl (.tmp 5) (.tmp 6) 36 rfl w.heap.size 24 i24 _ 4 48 Try.underlying36 hi hz hs hb rfl (by omega) (.slice (some ⟨w.heap.size, 0, none⟩) 0 0) 0 [] rfl (own_empty rfl (Nat.le_refl _)) B A1 n1 c1 (a.flatMap cellsE) rfl (H1.out.2.1.alloc hB _) (cellsE_one _) (.inl rfl) (by unfold maxLen; omega) (by omega) (by simp) (w.heap.size + 1) (by simp) ?_; intro g1 cap1 w1 hown1 hgrow1 hat1 hlt1; simp only [Nat.zero_add, List.nil_append] at hown1)
    | (at_builtin; refine wpList_append_x _ rfl (.tmp 7) (.tmp 8) 36 rfl w.heap.size 24 i24 _ 4 48 Try.underlying36 hi hz hs hb rfl (by omega) (.slice (some ⟨g1, 0, none⟩) n1 cap1) n1 (a.flatMap cellsE) rfl hown1 B A2 n2 c2 (b.flatMap cellsE) rfl ?_ (cellsE_one _) (.inl rfl) (by unfold maxLen; omega) (by omega) (by have := hgrow1.size; simp at this; omega) w1.heap.size rfl ?_; rotate_right; intro g2 cap2 w2 hown2 hgrow2 hat2 hlt2))
  · have hs1 := hgrow1.size
    have hs1' : w.heap.size + 1 ≤ w1.heap.size := by simpa using hs1
    have hbel : Below w.heap.size w w2 := by
      refine Below.grown (Below.grown ((Below.refl _ _).alloc (Nat.le_refl _) _) hgrow1 (by simp) ?_) hgrow2 (by omega) ?_
      · intro j hj
        have : w.heap.size = j := by simpa [Value.ownBlock] using hj
        omega
      · exact fun j hj => (hown1.lt j hj).1
    have HO := Lib.hid hown2
    have HB := Lib.hid hbel
    clear hown1 hown2 hgrow1 hgrow2 hbel hs1
    go_ret
    rw [← L1.out, ← L2.out] at HO ⊢
    exact ⟨g2, cap2, rfl, HO.out, HB.out⟩
  · exact (H2.out.2.1.alloc hB _).grown hgrow1 (by simp; omega) (fun j hj => by
      have : w.heap.size = j := by simpa [Value.ownBlock] using hj
      omega)

/-- Blank lines between 1001 and 2001 are told as 1000. -/
def clip (e : CE) : CE := if 1000 < e.b ∧ e.b ≤ 2001 then { e with b := 1000 } else e
def clipTo (k : Nat) (es : List CE) : List CE := (es.take k).map clip ++ es.drop k
theorem clipTo_len (k : Nat) (es : List CE) (hk : k ≤ es.length) : (clipTo k es).length = es.length := by
  simp [clipTo, Nat.min_eq_left hk]; omega
theorem clipTo_at (k : Nat) (es : List CE) (e : CE) (he : es[k]? = some e) : (clipTo k es)[k]? = some e := by
  have hk := (List.getElem?_eq_some_iff.1 he).1
  unfold clipTo
  rw [List.getElem?_append_right (by simp; omega)]
  simp [Nat.min_eq_left (Nat.le_of_lt hk), he]
theorem clipTo_succ (k : Nat) (es : List CE) (e : CE) (he : es[k]? = some e) : clipTo (k + 1) es = (clipTo k es).set k (clip e) := by
  have hk := (List.getElem?_eq_some_iff.1 he).1
  unfold clipTo
  rw [List.set_append_right _ _ (by simp; omega)]
  have h1 : es.take (k + 1) = es.take k ++ [e] := by rw [List.take_add_one, he]; rfl
  have h2 : es.drop k = e :: es.drop (k + 1) := by
    rw [List.drop_eq_getElem_cons hk]
    congr 1
    exact Option.some.inj ((List.getElem?_eq_getElem hk).symm.trans he)
  rw [h1, List.map_append, List.append_assoc, h2]
  simp [Nat.min_eq_left (Nat.le_of_lt hk)]
theorem set_same {α : Type} (l : List α) (k : Nat) (x : α) (h : l[k]? = some x) : l.set k x = l := by
  have hk := (List.getElem?_eq_some_iff.1 h).1
  have : l[k] = x := Option.some.inj ((List.getElem?_eq_getElem hk).symm.trans h)
  rw [← this]
  exact List.set_getElem_self hk
theorem clipTo_stay (k : Nat) (es : List CE) (e : CE) (he : es[k]? = some e) (h : ¬ (1000 < e.b ∧ e.b ≤ 2001)) : clipTo (k + 1) es = clipTo k es := by
  rw [clipTo_succ k es e he, clip, if_neg h, set_same _ _ _ (clipTo_at k es e he)]
theorem flatMap_set (f : CE → List Value) (hf : ∀ e, (f e).length = 4) : ∀ (es : List CE) (k j : Nat) (e : CE) (u : Value), k < es.length → j < 4 → (∀ x, es[k]? = some x → f e = (f x).set j u) → (es.set k e).flatMap f = (es.flatMap f).set (k * 4 + j) u
  | [], k, j, e, u, h, _, _ => by simp at h
  | x :: r, 0, j, e, u, h, hj, hx => by
    simp only [List.set_cons_zero, List.flatMap_cons, Nat.zero_mul, Nat.zero_add]
    rw [List.set_append_left _ _ (by rw [hf]; exact hj), hx x rfl]
  | x :: r, k + 1, j, e, u, h, hj, hx => by
    simp only [List.set_cons_succ, List.flatMap_cons]
    rw [List.set_append_right _ _ (by rw [hf]; omega), hf, flatMap_set f hf r k j e u (by simpa using h) hj (fun y hy => hx y (by simpa using hy))]
    congr 2
    omega
theorem clipTo_cut (k : Nat) (es : List CE) (e : CE) (he : es[k]? = some e) (h : 1000 < e.b ∧ e.b ≤ 2001) : (clipTo (k + 1) es).flatMap cellsE = ((clipTo k es).flatMap cellsE).set (k * 4 + 1) (.int .i64 1000) := by
  have hk := (List.getElem?_eq_some_iff.1 he).1
  rw [clipTo_succ k es e he]
  refine flatMap_set cellsE (fun _ => rfl) _ k 1 _ _ (by rw [clipTo_len k es (by omega)]; exact hk) (by omega) (fun x hx => ?_)
  have := (clipTo_at k es e he).symm.trans hx
  cases this
  simp [clip, h, cellsE]

set_option maxRecDepth 100000 in
set_option maxHeartbeats 1600000 in
theorem still_any (A : Option Addr) (n c : Nat) (es : List CE) (B : Nat) (w : World) (h : Els w B A n es) (hB : B ≤ w.heap.size) (hn : n ≤ 2147483647) (hs : Sound es) :
    Calls Try.prog 21 #[.slice A n c] w (AnsP (fodderP (es.map clip)) w) := by
  have HH := Lib.hid h
  have HS := Lib.hid hs
  have HL := Lib.hid h.1
  clear h hs
  obtain ⟨i24, hi, hz, hs, hb⟩ := info_parts info_el
  go_enter Try.func21, Try.ntmps21
  go_wp2_with (at_builtin; refine wpList_append_x _ rfl (.tmp 5) (.tmp 6) 36 rfl w.heap.size 24 i24 _ 4 48 Try.underlying36 hi hz hs hb rfl (by omega) (.slice (some ⟨w.heap.size, 0, none⟩) 0 0) 0 [] rfl (own_empty rfl (Nat.le_refl _)) B A n c (es.flatMap cellsE) rfl (HH.out.2.1.alloc hB _) (cellsE_one _) (.inl rfl) (by unfold maxLen; omega) (by omega) (by simp) (w.heap.size + 1) (by simp) ?_; intro g1 cap1 w1 hown1 hgrow1 hat1 hlt1; simp only [Nat.zero_add, List.nil_append] at hown1)
  have hbel1 : Below w.heap.size w w1 := by
    refine Below.grown ((Below.refl _ _).alloc (Nat.le_refl _) _) hgrow1 (by simp) ?_
    intro j hj
    have : w.heap.size = j := by simpa [Value.ownBlock] using hj
    omega
  have HB1 := Lib.hid hbel1
  have HO1 := Lib.hid hown1
  clear hgrow1 hown1 hbel1
  go_loopw [4] (fun i wr => ∃ k : Nat, k ≤ n ∧ i = .int .i64 k ∧ Below w.heap.size w wr ∧ wr.ownsRow w.heap.size 24 4 (.slice (some ⟨g1, 0, none⟩) n cap1) n ((clipTo k es).flatMap cellsE)) (fun i _ => n - (intOf i).toNat)
  case atStart => exact ⟨0, Nat.zero_le _, rfl, HB1.out, by simpa [clipTo] using HO1.out⟩
  case round =>
    obtain ⟨k, hk, rfl, hbel, hown⟩ := hrel
    have HB := Lib.hid hbel
    have HO := Lib.hid hown
    have hgb := hown.lt g1 rfl
    clear hbel hown
    by_cases hlt : k < n
    · have hkl : k < es.length := by rw [HL.out]; exact hlt
      obtain ⟨e, he⟩ : ∃ e, es[k]? = some e := ⟨_, List.getElem?_eq_getElem hkl⟩
      have hc1 : wr.cell? ⟨g1, k * 4 + 1, none⟩ = some (.int .i64 e.b) := by
        rw [HO.out.cellAt (k * 4 + 1) (by omega), flatMap_get4 cellsE (fun _ => rfl) _ k 1 e (clipTo_at k es e he) (by omega)]
        rfl
      have hf1 : wr.frozen? ⟨g1, k * 4 + 1, none⟩ = false := HO.out.frozenAt _
      have HE := Lib.hid he
      clear he
      have i0 : (0 : Int) ≤ (k : Int) := by omega
      have i1 : (k : Int) < (n : Int) := by omega
      by_cases h1 : 1000 < e.b
      · by_cases h2 : e.b ≤ 2001
        · go_wp2_with fail
          go_roundw
          case rel => exact ⟨k + 1, by omega, by go_num, HB.out.setCell (p := ⟨g1, k * 4 + 1, none⟩) (by exact hgb.1) _, by
            rw [clipTo_cut k es e HE.out ⟨h1, h2⟩]
            exact (HO.out.stored (k * 4 + 1) _).1⟩
          case measure => simp [intOf]; omega
        · go_wp2_with fail
          go_roundw
          case rel => exact ⟨k + 1, by omega, by go_num, HB.out, by
            rw [clipTo_stay k es e HE.out (by omega)]
            exact HO.out⟩
          case measure => simp [intOf]; omega
      · go_wp2_with fail
        go_roundw
        case rel => exact ⟨k + 1, by omega, by go_num, HB.out, by
          rw [clipTo_stay k es e HE.out (by omega)]
          exact HO.out⟩
        case measure => simp [intOf]; omega
    · obtain rfl : k = n := by omega
      have hall : clipTo k es = es.map clip := by
        unfold clipTo
        rw [List.take_of_length_le (by rw [HL.out]; exact Nat.le_refl _), List.drop_eq_nil_of_le (by rw [HL.out]; exact Nat.le_refl _), List.append_nil]
      rw [hall] at HO
      go_wp2_with fail
      refine (lawFodder_any (some ⟨g1, 0, none⟩) k cap1 (es.map clip) wr.heap.size _ ⟨by simp [HL.out], Reads.of_own HO.out, ?_⟩ (Nat.le_refl _) (by unfold maxLen; omega) ?_).mono ?_
      · intro e he
        obtain ⟨x, hx, rfl⟩ := List.mem_map.1 he
        have h1 := Reads.more (Strs.below (HH.out.2.2 x hx) (HB.out.mono hB)) (Nat.le_trans hB HB.out.size)
        unfold clip
        split <;> exact h1
      · intro e he
        obtain ⟨x, hx, rfl⟩ := List.mem_map.1 he
        have h1 := HS.out x hx
        unfold clip
        split <;> exact h1
      rintro e1 w2 ⟨⟨bb, rfl, hbb⟩, hb2⟩
      have HBB := Lib.hid hbb
      have HB2 := Lib.hid (HB.out.trans (hb2.mono HB.out.size))
      clear hbb hb2
      go_wp2_with fail
      go_ret
      exact ⟨⟨bb, rfl, HBB.out⟩, HB2.out⟩
end Go.Proofs.Ythinfliplpjdjaa
