/-
  The plain law of concatenation: two lists that are fodder give fodder, once the blank lines are clipped; and they stand one behind the other wherever the second may follow the first. No program in sight.
-/
import Derived.Test.YthinfliplpjdjaaImplConcat
namespace Go.Proofs.Ythinfliplpjdjaa
open Go.RowKit

def okS (e : Say) : Prop := elementOk e.1 e.2.1 e.2.2.1 e.2.2.2 = true
/-- Fodder, read from the left; p: the kind that stands ahead. -/
def fodR : Option Int → List Say → Prop
  | _, [] => True
  | p, e :: r => okS e ∧ (∀ k, p = some k → followsK k e.1 = true) ∧ fodR (some e.1) r
def lastK : Option Int → List Say → Option Int
  | p, [] => p
  | _, e :: r => lastK (some e.1) r

theorem fodR_append (a b : List Say) : ∀ p, fodR p (a ++ b) ↔ fodR p a ∧ fodR (lastK p a) b := by
  induction a with
  | nil => intro p; simp [fodR, lastK]
  | cons e r ih => intro p; simp [fodR, lastK, ih, and_assoc]
theorem lastK_snoc (a : List Say) (x : Say) : ∀ p, lastK p (a ++ [x]) = some x.1 := by
  induction a with
  | nil => intro p; rfl
  | cons e r ih => intro p; exact ih _

theorem fodR_of_index (l : List Say) : ∀ p, (∀ j e, l[j]? = some e → okS e ∧ (∀ e', 0 < j → l[j - 1]? = some e' → followsK e'.1 e.1 = true) ∧ (j = 0 → ∀ k, p = some k → followsK k e.1 = true)) → fodR p l := by
  induction l with
  | nil => intro p _; trivial
  | cons e r ih =>
    intro p h
    have h0 := h 0 e rfl
    refine ⟨h0.1, h0.2.2 rfl, ih _ fun j x hx => ?_⟩
    have h1 := h (j + 1) x (by simpa using hx)
    refine ⟨h1.1, fun e' hj he' => h1.2.1 e' (by omega) ?_, fun hj k hk => ?_⟩
    · obtain ⟨i, rfl⟩ : ∃ i, j = i + 1 := ⟨j - 1, by omega⟩
      simpa using he'
    · subst hj
      have := h1.2.1 e (by omega) (by simp)
      simp only [Option.some.injEq] at hk
      rw [← hk]
      exact this
theorem index_of_fodR (l : List Say) : ∀ p, fodR p l → ∀ j e, l[j]? = some e → okS e ∧ ∀ e', 0 < j → l[j - 1]? = some e' → followsK e'.1 e.1 = true := by
  induction l with
  | nil => intro p _ j e he; simp at he
  | cons x r ih =>
    intro p h j e he
    cases j with
    | zero => simp at he; subst he; exact ⟨h.1, fun e' hj => by omega⟩
    | succ j =>
      have h1 := ih _ h.2.2 j e (by simpa using he)
      refine ⟨h1.1, fun e' _ he' => ?_⟩
      cases j with
      | zero =>
        simp at he'
        subst he'
        cases r with
        | nil => simp at he
        | cons y r =>
          simp at he
          subst he
          exact h.2.2.2.1 _ rfl
      | succ j => exact h1.2 e' (by omega) (by simpa using he')

theorem fodderP_iff (es : List CE) : fodderP es ↔ es.length ≤ 100 ∧ fodR none (es.map CE.say) := by
  unfold fodderP
  refine and_congr Iff.rfl ⟨fun h => fodR_of_index _ _ fun j e he => ?_, fun h j e he => ?_⟩
  · rw [List.getElem?_map] at he
    obtain ⟨x, hx, rfl⟩ := Option.map_eq_some_iff.1 he
    have h1 := h j x hx
    refine ⟨h1.1, fun e' hj he' => ?_, fun _ k hk => by cases hk⟩
    rw [List.getElem?_map] at he'
    obtain ⟨y, hy, rfl⟩ := Option.map_eq_some_iff.1 he'
    exact h1.2 y hj hy
  · have h1 := index_of_fodR _ _ h j e.say (by rw [List.getElem?_map, he]; rfl)
    refine ⟨h1.1, fun e' hj he' => h1.2 e'.say hj (by rw [List.getElem?_map, he']; rfl)⟩

def clipS (e : Say) : Say := if 1000 < e.2.1 ∧ e.2.1 ≤ 2001 then (e.1, 1000, e.2.2.1, e.2.2.2) else e
theorem clip_say (e : CE) : (clip e).say = clipS e.say := by
  unfold clip clipS
  show CE.say (if 1000 < e.b ∧ e.b ≤ 2001 then _ else _) = if 1000 < e.b ∧ e.b ≤ 2001 then _ else _
  split <;> rfl
theorem clips_say (es : List CE) : (es.map clip).map CE.say = (es.map CE.say).map clipS := by
  rw [List.map_map, List.map_map]
  exact List.map_congr_left fun e _ => clip_say e

theorem ok_facts {e : Say} (h : okS e) : 0 ≤ e.1 ∧ e.1 ≤ 2 ∧ 0 ≤ e.2.1 ∧ e.2.1 ≤ 1000 ∧ 0 ≤ e.2.2.1 ∧ e.2.2.1 ≤ 1000 ∧ e.2.2.2.length ≤ 20 ∧ shortAll e.2.2.2 = true ∧ kindOk e.1 e.2.1 e.2.2.1 e.2.2.2.length = true := by
  have h1 := elementOk_facts h
  simp only [okS, elementOk, Bool.and_eq_true, decide_eq_true_eq] at h
  obtain ⟨⟨⟨a, b, c, d, e⟩, f⟩, g⟩ := h
  exact ⟨h1.1, h1.2.1, a, b, c, d, e, f, g⟩
theorem ok_of {e : Say} (h1 : 0 ≤ e.2.1) (h2 : e.2.1 ≤ 1000) (h3 : 0 ≤ e.2.2.1) (h4 : e.2.2.1 ≤ 1000) (h5 : e.2.2.2.length ≤ 20) (h6 : shortAll e.2.2.2 = true) (h7 : kindOk e.1 e.2.1 e.2.2.1 e.2.2.2.length = true) : okS e := by
  simp only [okS, elementOk, Bool.and_eq_true, decide_eq_true_eq]
  exact ⟨⟨⟨h1, h2, h3, h4, h5⟩, h6⟩, h7⟩

theorem fodR_ok : ∀ (l : List Say) (p : Option Int), fodR p l → ∀ e ∈ l, okS e
  | [], _, _, e, he => by cases he
  | x :: r, p, h, e, he => by
    rcases List.mem_cons.1 he with rfl | he
    · exact h.1
    · exact fodR_ok r _ h.2.2 e he
theorem clip_id {l : List Say} (h : ∀ e ∈ l, okS e) : l.map clipS = l := by
  conv => rhs; rw [← List.map_id l]
  exact List.map_congr_left fun e he => by
    have := ok_facts (h e he)
    unfold clipS
    rw [if_neg (by omega)]
    rfl

/-- What follows a line's end may follow a paragraph, or another line's end. -/
theorem follow_on {p : Int} (hp : p ≠ 1) : ∀ (r : List Say), fodR (some 0) r → fodR (some p) r
  | [], _ => trivial
  | e :: r, h => by
    refine ⟨h.1, fun k hk => ?_, h.2.2⟩
    have h1 := h.2.1 0 rfl
    simp only [Option.some.injEq] at hk
    subst hk
    unfold followsK at h1 ⊢
    split
    · rename_i he
      rw [if_pos he] at h1
      simp at h1
    · split
      · simpa using hp
      · rfl

theorem concat_fod (a b : List Say) (ha : fodR none a) (hb : fodR none b) (hd : ∀ x y, a[a.length - 1]? = some x → b[0]? = some y → ¬ (y.1 = 2 ∧ x.1 = 1)) : fodR none ((concatS a b).map clipS) := by
  have ida := clip_id (fodR_ok a _ ha)
  have idb := clip_id (fodR_ok b _ hb)
  unfold concatS
  split
  · rw [idb]; exact hb
  · rename_i hne
    cases b with
    | nil => rw [ida]; exact ha
    | cons b0 rb =>
      obtain ⟨a', x, rfl⟩ : ∃ a' x, a = a' ++ [x] := ⟨a.dropLast, a.getLast hne, (List.dropLast_concat_getLast hne).symm⟩
      have hlast : (a' ++ [x])[(a' ++ [x]).length - 1]? = some x := by simp
      have hd' := hd x b0 hlast rfl
      have hok0 := ok_facts hb.1
      have hokx := ok_facts (fodR_ok _ _ ha x (by simp))
      have ha' := (fodR_append a' [x] none).1 ha
      have idr : rb.map clipS = rb := clip_id (fodR_ok rb _ hb.2.2)
      have ida' : a'.map clipS = a' := clip_id (fodR_ok a' _ ha'.1)
      have hcl : cleanS (a' ++ [x]) = (x.1 != 1) := by unfold cleanS; rw [hlast]
      have idx : clipS x = x := by unfold clipS; rw [if_neg (by omega)]
      have id0 : clipS b0 = b0 := by unfold clipS; rw [if_neg (by omega)]
      simp only [appendS, hcl]
      split
      · rename_i hc
        have hx1 : x.1 ≠ 1 := by simpa using hc.1
        split
        · -- a paragraph
          rename_i hp
          have idp : clipS (2, b0.2.1, b0.2.2.1, b0.2.2.2) = (2, b0.2.1, b0.2.2.1, b0.2.2.2) := by unfold clipS; rw [if_neg (by simp only; omega)]
          rw [List.map_append, List.map_append, List.map_append, idr, ida', List.map_cons, List.map_nil, List.map_cons, List.map_nil, idx, idp, fodR_append, fodR_append, lastK_snoc, lastK_snoc]
          refine ⟨⟨ha, ?_, ?_, trivial⟩, follow_on (by simp) rb (by rw [← hc.2]; exact hb.2.2)⟩
          · exact ok_of hok0.2.2.1 hok0.2.2.2.1 hok0.2.2.2.2.1 hok0.2.2.2.2.2.1 hok0.2.2.2.2.2.2.1 hok0.2.2.2.2.2.2.2.1 (by simp [kindOk]; exact hp)
          · intro k hk
            simp only [Option.some.injEq] at hk
            subst hk
            simpa [followsK] using hx1
        · -- the two line ends become one
          rename_i hp
          rw [hlast]
          simp only
          have hset : (a' ++ [x]).set ((a' ++ [x]).length - 1) (x.1, x.2.1 + b0.2.1, b0.2.2.1, x.2.2.2) = a' ++ [(x.1, x.2.1 + b0.2.1, b0.2.2.1, x.2.2.2)] := by
            rw [List.set_append_right _ _ (by simp)]
            simp
          rw [hset, List.map_append, List.map_append, idr, ida', List.map_cons, List.map_nil, fodR_append, fodR_append]
          have hm : clipS (x.1, x.2.1 + b0.2.1, b0.2.2.1, x.2.2.2) = (x.1, if 1000 < x.2.1 + b0.2.1 then 1000 else x.2.1 + b0.2.1, b0.2.2.1, x.2.2.2) := by
            unfold clipS
            by_cases h1 : 1000 < x.2.1 + b0.2.1
            · rw [if_pos (by simp only; omega), if_pos h1]
            · rw [if_neg (by simp only; omega), if_neg h1]
          rw [hm, lastK_snoc]
          refine ⟨⟨ha'.1, ?_, ha'.2.2.1, trivial⟩, follow_on hx1 rb (by rw [← hc.2]; exact hb.2.2)⟩
          refine ok_of ?_ ?_ hok0.2.2.2.2.1 hok0.2.2.2.2.2.1 hokx.2.2.2.2.2.2.1 hokx.2.2.2.2.2.2.2.1 ?_
          · simp only; split <;> omega
          · simp only; split <;> omega
          · have hk := hokx.2.2.2.2.2.2.2.2
            unfold kindOk at hk ⊢
            simp only [if_neg hx1] at hk ⊢
            exact hk
      · rename_i hc
        rw [List.map_append, List.map_append, List.map_append, idr, ida', List.map_cons, List.map_nil, List.map_cons, List.map_nil, idx, id0, fodR_append, fodR_append, lastK_snoc, lastK_snoc]
        refine ⟨⟨ha, hb.1, ?_, trivial⟩, hb.2.2⟩
        intro k hk
        simp only [Option.some.injEq] at hk
        subst hk
        unfold followsK
        split
        · rename_i h0
          by_cases hx : x.1 = 1
          · simp [hx]
          · exact absurd ⟨by simpa using hx, h0⟩ hc
        · split
          · rename_i h2
            have : x.1 ≠ 1 := fun hx => hd' ⟨h2, hx⟩
            simpa using this
          · rfl

theorem concat_both_say (a b : List Say) (h : ∀ x y, a[a.length - 1]? = some x → b[0]? = some y → followsK x.1 y.1 = true) : concatS a b = a ++ b := by
  unfold concatS
  split
  · rename_i he; rw [he]; rfl
  · rename_i hne
    cases b with
    | nil => simp
    | cons b0 rb =>
      obtain ⟨a', x, rfl⟩ : ∃ a' x, a = a' ++ [x] := ⟨a.dropLast, a.getLast hne, (List.dropLast_concat_getLast hne).symm⟩
      have hlast : (a' ++ [x])[(a' ++ [x]).length - 1]? = some x := by simp
      have h1 := h x b0 hlast rfl
      have hcl : cleanS (a' ++ [x]) = (x.1 != 1) := by unfold cleanS; rw [hlast]
      have : ¬ ((x.1 != 1) = true ∧ b0.1 = 0) := by
        rintro ⟨h2, h3⟩
        simp only [followsK, h3, if_pos] at h1
        simp at h1 h2
        exact h2 h1
      simp only [appendS, hcl, if_neg this]
      simp
theorem concatS_len (a b : List Say) : (concatS a b).length ≤ a.length + b.length := by
  unfold concatS
  split
  · omega
  · cases b with
    | nil => simp
    | cons b0 rb =>
      have : (appendS a b0).length ≤ a.length + 1 := by
        unfold appendS
        split
        · split
          · simp
          · split <;> simp
        · simp
      simp only [List.length_append, List.length_cons]
      omega
end Go.Proofs.Ythinfliplpjdjaa
