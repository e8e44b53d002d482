/-
  PartFind, impl.Find: is a field in the object that steps make.
-/
import Derived.Test.YtkbjcpeogecbgaaDoorFsFind2
namespace Go.Proofs.YtkbjcpeogecbgaaDoor
open Go.RowKit Go.Maps

def PfPost (f : Bool) (w : World) (e : Ending) (w' : World) : Prop :=
  (∃ ct k : Int, e = .returned (.tuple #[.bool f, .int .i64 ct, .int .i64 k]) ∧ 0 ≤ ct ∧ ct < k) ∧ Below w.heap.size w w'

set_option maxRecDepth 100000 in
set_option maxHeartbeats 1600000 in
theorem PartFind_any (A : Option Addr) (n c : Nat) (js : List FE) (s : ByteArray) (hs : s.size ≤ maxLen) (w : World) (h : JSteps w w.heap.size A n js) (hn : n ≤ 12) (hok : ∀ j ∈ js, OkJ j) :
    Calls Tryd.prog 15 #[.slice A n c, .int .i64 0, .string s] w (PfPost (hasO (objOf js n) s) w) := by
  have K := Lib.hid (chainO_any A n c js w h hn hok)
  have HNO := Lib.hid (objOf_no js n)
  have HSZ := Lib.hid (objOf_size js n)
  clear h hok
  generalize hf : hasO (objOf js n) s = f
  generalize objOf js n = o at K HNO HSZ hf
  have HF := Lib.hid hf
  clear hf
  have hsz : (sizeO o : Int) - 1000 ≤ 0 := by have := HSZ.out; omega
  have ms := method_simple
  have me := method_ext
  have HS := Lib.hid hs
  clear hs
  cases o with
  | restr o L => exact HNO.out.elim
  | simple L =>
    go_enter Tryd.func15, Tryd.ntmps15
    go_wp2_with (first
      | (go_at_call 25; refine K.out.mono ?_; rintro e1 w1 ⟨⟨p1, rfl, hv1⟩, hb1⟩; obtain ⟨gp, mp, vp, rfl, hgp, hbkp, hob⟩ := hv1; have hob0 := hob; obtain ⟨go, bo, no, rfl, hgo⟩ := hob0; have p2 := hbkp.cell 2; simp only [List.getElem?_toArray, List.getElem?_cons_zero, List.getElem?_cons_succ] at p2)
      | (go_at_call 26; refine (ff_any s HS.out _ HNO.out _ 0 w1.heap.size w1 (by omega) hsz hob (Nat.le_refl _) f HF.out).mono ?_; rintro e2 w2 ⟨⟨h2, ct2, rfl, hc2, hc2'⟩, hb2⟩)
      | (go_at_call 75; refine (size_simple _ _).mono ?_; rintro e9 w9 ⟨rfl, rfl⟩))
    refine bodyPost_ret (v := .tuple #[.bool f, .int .i64 ct2, .int .i64 1]) ?_ rfl ⟨⟨ct2, 1, rfl, hc2, hc2'⟩, (hb1.trans (hb2.mono hb1.size)).alloc (Nat.le_trans hb1.size hb2.size) _⟩
    simp [results, Tryd.results15, go_sem]
  | ext l L =>
    go_enter Tryd.func15, Tryd.ntmps15
    go_wp2_with (first
      | (go_at_call 25; refine K.out.mono ?_; rintro e1 w1 ⟨⟨p1, rfl, hv1⟩, hb1⟩; obtain ⟨gp, mp, vp, rfl, hgp, hbkp, hob⟩ := hv1; have hob0 := hob; obtain ⟨go, vl, vr, rfl, hgo⟩ := hob0; have p2 := hbkp.cell 2; simp only [List.getElem?_toArray, List.getElem?_cons_zero, List.getElem?_cons_succ] at p2)
      | (go_at_call 26; refine (ff_any s HS.out _ HNO.out _ 0 w1.heap.size w1 (by omega) hsz hob (Nat.le_refl _) f HF.out).mono ?_; rintro e2 w2 ⟨⟨h2, ct2, rfl, hc2, hc2'⟩, hb2⟩)
      | (go_at_call 74; refine (size_ext go vl vr (.int .i64 ((sizeO l + 1 : Nat) : Int)) _ ((hgo.2.1.below hb2 hgo.1).alloc _)).mono ?_; rintro e9 w9 ⟨rfl, rfl⟩))
    refine bodyPost_ret (v := .tuple #[.bool f, .int .i64 ct2, .int .i64 ((sizeO l + 1 : Nat) : Int)]) ?_ rfl ⟨⟨ct2, _, rfl, hc2, hc2'⟩, (hb1.trans (hb2.mono hb1.size)).alloc (Nat.le_trans hb1.size hb2.size) _⟩
    simp [results, Tryd.results15, go_sem]
theorem look_some : ∀ (L : AL) (s : ByteArray), (lookL L s).isSome = true ↔ ∃ p ∈ L, p.1 = s
  | [], s => by simp [lookL]
  | (a, h) :: L, s => by
    by_cases he : a = s
    · simp [lookL, he]
    · simp [lookL, he, look_some L s]
theorem zip_names : ∀ (ns : List ByteArray) (hs : List Int), ns.length = hs.length → ∀ s, (∃ p ∈ ns.zip hs, p.1 = s) ↔ s ∈ ns
  | [], [], _, s => by simp
  | a :: ns, b :: hs, h, s => by
    have ih := zip_names ns hs (by simpa using h) s
    rw [List.zip_cons_cons, List.mem_cons, ← ih]
    constructor
    · rintro ⟨p, hp, rfl⟩
      rcases List.mem_cons.1 hp with rfl | hp
      · exact .inl rfl
      · exact .inr ⟨p, hp, rfl⟩
    · rintro (rfl | ⟨p, hp, rfl⟩)
      · exact ⟨(s, b), List.mem_cons_self .., rfl⟩
      · exact ⟨p, List.mem_cons_of_mem _ hp, rfl⟩
  | [], _ :: _, h, _ => by simp at h
  | _ :: _, [], h, _ => by simp at h
theorem has_objOf (js : List FE) (s : ByteArray) (hl : ∀ j ∈ js, j.ns.length = j.hs.length) : ∀ k, k ≤ js.length → (hasO (objOf js k) s = true ↔ ∃ i j, i < k ∧ js[i]? = some j ∧ s ∈ j.ns)
  | 0, _ => by simp [objOf, hasO, lookL]
  | 1, h => by
    obtain ⟨j, hj⟩ : ∃ j, js[0]? = some j := ⟨js[0], List.getElem?_eq_getElem (by omega)⟩
    have hg : js.getD 0 ⟨false, ByteArray.empty, none, 0, 0, [], none, 0, 0, []⟩ = j := by simp [hj]
    have e1 : (lookL (alOf j) s).isSome = true ↔ s ∈ j.ns := by
      rw [look_some, ← zip_names _ _ (hl j (List.mem_of_getElem? hj)) s]
      simp [alOf]
    rw [objOf, hasO, hg, e1]
    constructor
    · exact fun h => ⟨0, j, by omega, hj, h⟩
    · rintro ⟨i, j', h1, h2, h3⟩
      obtain rfl : i = 0 := by omega
      rw [hj] at h2
      cases h2
      exact h3
  | k + 2, h => by
    have ih := has_objOf js s hl (k + 1) (by omega)
    obtain ⟨j, hj⟩ : ∃ j, js[k + 1]? = some j := ⟨js[k + 1], List.getElem?_eq_getElem (by omega)⟩
    have hg : js.getD (k + 1) ⟨false, ByteArray.empty, none, 0, 0, [], none, 0, 0, []⟩ = j := by simp [hj]
    have e1 : (lookL (alOf j) s).isSome = true ↔ s ∈ j.ns := by
      rw [look_some, ← zip_names _ _ (hl j (List.mem_of_getElem? hj)) s]
      simp [alOf]
    rw [objOf, hasO, hg, Bool.or_eq_true, e1, ih]
    constructor
    · rintro (h | ⟨i, j', h1, h2, h3⟩)
      · exact ⟨k + 1, j, by omega, hj, h⟩
      · exact ⟨i, j', by omega, h2, h3⟩
    · rintro ⟨i, j', h1, h2, h3⟩
      rcases Nat.lt_or_ge i (k + 1) with h4 | h4
      · exact .inr ⟨i, j', h4, h2, h3⟩
      · obtain rfl : i = k + 1 := by omega
        rw [hj] at h2
        cases h2
        exact .inl h3
/-- Find: found just if a step has the name. -/
def FdPost (es : List FE) (s : ByteArray) (w : World) (e : Ending) (w' : World) : Prop :=
  (∃ (f : Bool) (ct k : Int), e = .returned (.tuple #[.bool f, .int .i64 ct, .int .i64 k, .bool true]) ∧ (f = true ↔ ∃ e ∈ es, s ∈ e.ns) ∧ 0 ≤ ct ∧ (f = true → ct < k)) ∧ Below w.heap.size w w'
set_option maxRecDepth 100000 in
set_option maxHeartbeats 1600000 in
theorem Find_any (A : Option Addr) (n c : Nat) (es : List FE) (s : ByteArray) (hs : s.size ≤ maxLen) (B : Nat) (w : World) (h : FSteps w B A n es) (hB : B ≤ w.heap.size) (hn : n ≤ 12) (hok : ∀ e ∈ es, OkF e ∧ e.is = false) (hsz : SoundF es) :
    Calls Tryd.prog 7 #[.slice A n c, .int .i64 0, .string s] w (FdPost es s w) := by
  have HL := Lib.hid h.1
  have HH := Lib.hid h
  have HO := Lib.hid hok
  have HZ := Lib.hid hsz
  have HS := Lib.hid hs
  have K := Lib.hid (chain_any A n c es B w h hB hn (fun e he => (hok e he).1))
  clear h hok hsz hs
  go_enter Tryd.func7, Tryd.ntmps7
  go_wp2_with fail
  refine K.out.mono ?_
  rintro e1 w1 ⟨⟨A1, c1, js, rfl, hj, hto⟩, hb1⟩
  rw [HL.out] at hj ⊢
  have hjl : js.length = n := hj.1
  have hpair : ∀ (i : Nat) (j : FE), js[i]? = some j → ∃ e, es[i]? = some e ∧ toJ e j := fun i j hij => by
    have hi : i < js.length := (List.getElem?_eq_some_iff.1 hij).1
    have he := List.getElem?_eq_getElem (show i < es.length by rw [HL.out]; omega)
    exact ⟨_, he, hto i _ _ he hij⟩
  have hokj : ∀ j ∈ js, OkJ j := fun j hm => by
    obtain ⟨i, hi, rfl⟩ := List.getElem_of_mem hm
    obtain ⟨e, he, t1, t2, t3, t4, t5, t6, t7, t8⟩ := hpair i _ (List.getElem?_eq_getElem hi)
    have hoe := HO.out e (List.mem_of_getElem? he)
    exact ⟨t1.trans hoe.2, by rw [t4, t7]; exact hoe.1.1, by rw [t4]; exact hoe.1.2.1, by rw [t6]; exact (HZ.out e (List.mem_of_getElem? he)).2.2.2⟩
  have hlen : ∀ j ∈ js, j.ns.length = j.hs.length := fun j hm => by
    have h1 := (hj.2.2 j hm).1.len
    have h2 := (hj.2.2 j hm).2.len
    have h3 := (hokj j hm).2.1
    omega
  have hf : (hasO (objOf js n) s = true ↔ ∃ e ∈ es, s ∈ e.ns) := by
    rw [has_objOf js s hlen n (by omega)]
    constructor
    · rintro ⟨i, j, h1, h2, h3⟩
      obtain ⟨e, he, t⟩ := hpair i j h2
      exact ⟨e, List.mem_of_getElem? he, by rw [← t.2.2.2.2.2.1]; exact h3⟩
    · rintro ⟨e, he, h3⟩
      obtain ⟨i, hi, rfl⟩ := List.getElem_of_mem he
      have hij := List.getElem?_eq_getElem (show i < js.length by rw [hjl, ← HL.out]; exact hi)
      exact ⟨i, _, by rw [← HL.out]; exact hi, hij, by rw [(hto i _ _ (List.getElem?_eq_getElem hi) hij).2.2.2.2.2.1]; exact h3⟩
  have K2 := Lib.hid (PartFind_any A1 n c1 js s HS.out w1 hj hn hokj)
  have HF := Lib.hid hf
  have HB1 := Lib.hid hb1
  clear hf hlen hokj hpair hj hto hb1
  generalize hasO (objOf js n) s = f at K2 HF
  go_wp2_with fail
  refine K2.out.mono ?_
  rintro e2 w2 ⟨⟨ct, k, rfl, g1, g2⟩, hb2⟩
  cases f
  · go_wp2_with fail
    refine bodyPost_ret (v := .tuple #[.bool false, .int .i64 0, .int .i64 k, .bool true]) ?_ rfl ⟨⟨false, 0, k, rfl, HF.out, by omega, fun h => by cases h⟩, HB1.out.trans (hb2.mono HB1.out.size)⟩
    simp [results, Tryd.results7, go_sem]
  · go_wp2_with fail
    refine bodyPost_ret (v := .tuple #[.bool true, .int .i64 ct, .int .i64 k, .bool true]) ?_ rfl ⟨⟨true, ct, k, rfl, ⟨fun _ => HF.out.1 trivial, fun _ => rfl⟩, g1, fun _ => g2⟩, HB1.out.trans (hb2.mono HB1.out.size)⟩
    simp [results, Tryd.results7, go_sem]
end Go.Proofs.YtkbjcpeogecbgaaDoor
