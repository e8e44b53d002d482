/-
  shapedComp: the members of an object comprehension.
-/
import Derived.Test.YtdhhdnopilfifaaPrKinds
namespace Go.Proofs.Ytdhhdnopilfifaa
open Go.RowKit

theorem KS.drop {w : World} {g off : Nat} {xs : List Int} (h : KS w (some ⟨g, off, none⟩) xs) (j : Nat) : KS w (some ⟨g, off + j, none⟩) (xs.drop j) := by
  rcases h with h | ⟨g', off', cs, hA, hh, hc⟩
  · left
    rw [h]
    simp
  · cases hA
    refine .inr ⟨g, off + j, cs, rfl, hh, fun i x hi => ?_⟩
    rw [List.getElem?_drop] at hi
    have := hc (j + i) x hi
    rw [← this]
    congr 1
    omega
def isF (es : List ND) (k : Nat) : Bool := match es[k]? with | some e => e.kind == 35 | none => false
def cntF (es : List ND) (l : List Nat) : Nat := (l.filter (isF es)).length
def MemC (es : List ND) (k : Nat) : Prop := ∃ e, es[k]? = some e ∧ (e.kind = 36 ∨ e.kind = 35 ∧ e.flag = 2 ∧ e.op = 0)
def CompP (es : List ND) (l : List Nat) : Prop := ∃ l1 l2, l = l1 ++ l2 ∧ (∀ k ∈ l1, MemC es k) ∧ cntF es l1 = 1 ∧ SpecsP es l2
theorem cntF_succ {es : List ND} {l : List Nat} {j k : Nat} (h : l[j]? = some k) : cntF es (l.take (j + 1)) = cntF es (l.take j) + (if isF es k then 1 else 0) := by
  unfold cntF
  rw [List.take_add_one, h, Option.toList_some, List.filter_append, List.length_append]
  cases hq : isF es k <;> simp [hq]
theorem cntF_le (es : List ND) (l : List Nat) : cntF es l ≤ l.length := List.length_filter_le _ _
def ScI (es : List ND) (l : List Nat) (j f : Nat) : Prop := cntF es (l.take j) = f ∧ ∀ k ∈ l.take j, MemC es k
theorem scI_step {es : List ND} {l : List Nat} {j f k : Nat} {e : ND} (h : ScI es l j f) (hk : l[j]? = some k) (he : es[k]? = some e) (hm : e.kind = 36 ∨ e.kind = 35 ∧ e.flag = 2 ∧ e.op = 0) : ScI es l (j + 1) (f + if e.kind == 35 then 1 else 0) := by
  refine ⟨?_, fun a ha => ?_⟩
  · rw [cntF_succ hk, h.1]
    unfold isF
    rw [he]
  · rw [List.take_add_one, hk, Option.toList_some, List.mem_append, List.mem_singleton] at ha
    rcases ha with ha | rfl
    · exact h.2 a ha
    · exact ⟨e, he, hm⟩
set_option maxRecDepth 100000 in
set_option maxHeartbeats 3200000 in
theorem shapedComp_any (A : Option Addr) (n c : Nat) (es : List ND) (B : Nat) (w : World) (h : Nodes w B A n es) (hB : B ≤ w.heap.size) (hn : n ≤ 1000000) (A2 : Option Addr) (c2 : Nat) (l : List Nat) (hk : KS w A2 (natI l)) (hl : ∀ k ∈ l, k < n) (hll : l.length ≤ 1000000) (hc2 : l.length ≤ c2) :
    Calls Try.prog 39 #[.slice A n c, .slice A2 l.length c2] w (BPost (CompP es l) w) := by
  have HH := Lib.hid h
  have HK := Lib.hid hk
  have HL := Lib.hid hl
  clear h hk hl
  go_enter Try.func39, Try.ntmps39
  go_wp2_with fail
  go_loopw [5, 6] (fun u t wr => ∃ j f : Nat, j ≤ l.length ∧ f ≤ j ∧ t = .int .i64 j ∧ u = .int .i64 f ∧ Hid (ScI es l j f) ∧ Hid (Below w.heap.size w wr)) (fun _ t _ => l.length - (intOf t).toNat)
  case atStart => exact ⟨0, 0, Nat.zero_le _, Nat.le_refl _, rfl, rfl, Lib.hid ⟨rfl, fun k hk => by cases hk⟩, Lib.hid (Below.refl _ _)⟩
  case round =>
    obtain ⟨j, f, hj, hf, rfl, rfl, HI, HB⟩ := hrel
    have fin : Hid (∀ (b : Bool), (b = true → SpecsP es (l.drop j)) → f = 1 → b = true → CompP es l) := Lib.hid (fun b hb hf1 hbt => ⟨l.take j, l.drop j, (List.take_append_drop j l).symm, HI.out.2, HI.out.1.trans hf1, hb hbt⟩)
    by_cases hlt : j < l.length
    · have hg := List.getElem?_eq_getElem hlt
      have hm := List.getElem_mem hlt
      generalize l[j] = k at *
      have hkn := HL.out k hm
      obtain ⟨g, off, rfl, -, hc⟩ := (HK.out.below HB.out).at_ (natI_get hg)
      obtain ⟨b, o, e, rfl, hbb, hek, c0, c1, -, c3, -⟩ := (HH.out.below HB.out hB).at_ hkn
      have HE := Lib.hid hek
      have HG := Lib.hid hg
      clear hg hm hek
      cases q35 : (e.kind == 35)
      · cases q36 : (e.kind == 36)
        · -- a specification
          have KSP := Lib.hid (specs_any (some ⟨b, o, none⟩) n c es B wr (HH.out.below HB.out hB) (Nat.le_trans hB HB.out.size) hn (some ⟨g, off + j, none⟩) (c2 - j) (l.drop j) (by have := (HK.out.below HB.out).drop j; unfold natI at *; rwa [List.map_drop]) (fun a ha => HL.out a (List.mem_of_mem_drop ha)) (by rw [List.length_drop]; omega))
          rw [List.length_drop] at KSP
          generalize e.kind = ek at *
          by_cases hf1 : f = 1
          · subst hf1
            go_wp2_with fail
            refine KSP.out.mono ?_
            rintro e1 w1 ⟨⟨b1, rfl, hb1⟩, hw1⟩
            have HB1 := Lib.hid (HB.out.trans (hw1.mono HB.out.size))
            have HF := Lib.hid (fin.out b1 hb1 (by trivial))
            clear hb1 hw1
            cases b1
            · go_wp2_with fail
              go_ret
              exact BPost.ret rfl (fun h => by cases h) HB1.out
            · go_wp2_with fail
              go_ret
              exact BPost.ret rfl (fun _ => HF.out (by trivial)) HB1.out
          · have qf : ((f : Int) == 1) = false := by simp; omega
            go_wp2_with fail
            go_ret
            exact BPost.ret rfl (fun h => by cases h) HB.out
        · have hk36 : e.kind = 36 := by simpa using q36
          have HN := Lib.hid (scI_step HI.out HG.out HE.out (.inl hk36))
          rw [q35] at HN
          simp only [Bool.false_eq_true, if_false, Nat.add_zero] at HN
          clear hk36
          generalize e.kind = ek at *
          go_wp2_with fail
          go_roundw
          case rel => exact ⟨j + 1, f, by omega, by omega, by go_num, rfl, HN, HB⟩
          case measure => simp [intOf]; omega
      · have hk35 : e.kind = 35 := by simpa using q35
        by_cases hfl : e.flag = 2 ∧ e.op = 0
        · have HN := Lib.hid (scI_step HI.out HG.out HE.out (.inr ⟨hk35, hfl⟩))
          rw [q35] at HN
          simp only [if_true] at HN
          obtain ⟨h1, h2⟩ := hfl
          rw [h1] at c3
          rw [h2] at c1
          rw [hk35] at c0
          clear h1 h2 hk35 q35
          go_wp2_with fail
          go_roundw
          case rel => exact ⟨j + 1, f + 1, by omega, by omega, by go_num, by go_num, HN, HB⟩
          case measure => simp [intOf]; omega
        · rw [hk35] at c0
          clear hk35 q35
          by_cases h1 : e.flag = 2
          · have h2 : (e.op != 0) = true := by simp; exact fun h => hfl ⟨h1, h⟩
            rw [h1] at c3
            clear h1 hfl
            generalize e.op = eo at *
            go_wp2_with fail
            go_ret
            exact BPost.ret rfl (fun h => by cases h) HB.out
          · have h2 : (e.flag != 2) = true := by simp; exact h1
            clear h1 hfl
            generalize e.flag = ef at *
            go_wp2_with fail
            go_ret
            exact BPost.ret rfl (fun h => by cases h) HB.out
    · obtain rfl : j = l.length := by omega
      have hd : l.drop l.length = [] := List.drop_length
      by_cases hf1 : f = 1
      · subst hf1
        obtain ⟨a, r, hl0⟩ : ∃ a r, l = a :: r := by
          cases l with
          | nil => simp at hf
          | cons a r => exact ⟨a, r, rfl⟩
        obtain ⟨g, off, rfl, -, -⟩ := (HK.out.below HB.out).at_ (j := 0) (x := (a : Int)) (by rw [hl0]; rfl)
        have KSP := Lib.hid (fun (A4 : Option Addr) (c4 : Nat) => specs_any A n c es B wr (HH.out.below HB.out hB) (Nat.le_trans hB HB.out.size) hn A4 c4 [] (.inl rfl) (fun a ha => by cases ha) (by simp))
        clear hl0
        go_wp2_with fail
        all_goals
          refine (KSP.out _ _).mono ?_
          rintro e1 w1 ⟨⟨b1, rfl, hb1⟩, hw1⟩
          have HB1 := Lib.hid (HB.out.trans (hw1.mono HB.out.size))
          have HF := Lib.hid (fin.out b1 (by rw [hd]; exact hb1) (by trivial))
          clear hb1 hw1 hd
          cases b1
          · go_wp2_with fail
            go_ret
            exact BPost.ret rfl (fun h => by cases h) HB1.out
          · go_wp2_with fail
            go_ret
            exact BPost.ret rfl (fun _ => HF.out (by trivial)) HB1.out
      · have qf : ((f : Int) == 1) = false := by simp; omega
        go_wp2_with fail
        go_ret
        exact BPost.ret rfl (fun h => by cases h) HB.out
end Go.Proofs.Ytdhhdnopilfifaa
