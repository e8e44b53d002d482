/-
  impl.Stack over right steps.
-/
import Derived.Test.YtkbjcpeogecbgaaStkPart
import Derived.Test.YtkbjcpeogecbgaaStkGuard
namespace Go.Proofs.Ytkbjcpeogecbgaa
open Go.RowKit Go.Maps

/-- A step as PartStack takes it: its number is its place, or, of a pop, what it says. -/
def cv (i : Nat) (e : SE) : SE := { e with num := if e.k = 3 then e.num else (i : Int) }
theorem info_js : (Try.prog.info? 36).map (fun i => (i.zero, i.size, i.bytes)) = some (some (.agg #[.int .i64 0, .slice none 0 0, .string ByteArray.empty, .int .i64 0, .bool false]), 5, 64) := by kernel_rfl
theorem cv_take (es : List SE) {k : Nat} {e : SE} (h : es[k]? = some e) : (es.mapIdx cv).take (k + 1) = (es.mapIdx cv).take k ++ [cv k e] := by
  obtain ⟨h1, h2⟩ := List.getElem?_eq_some_iff.1 h
  have h3 : k < (es.mapIdx cv).length := by simpa using h1
  rw [List.take_succ_eq_append_getElem h3, List.getElem_mapIdx, h2]
def StPost (l : List SS) (n : Nat) (w : World) (e : Ending) (w' : World) : Prop :=
  (∃ A0 A1 A2 c0 c1 c2, e = .returned (.tuple #[.slice A0 n c0, .slice A1 n c1, .slice A2 n c2, .bool true]) ∧ Reads w' w'.heap.size 1 A1 n (lensV l n) ∧ Reads w' w'.heap.size 1 A2 n (callsV l n)) ∧ Below w.heap.size w w'
theorem cv_mem {es : List SE} {e' : SE} (h : e' ∈ es.mapIdx cv) : ∃ i e, i < es.length ∧ e ∈ es ∧ e' = cv i e := by
  obtain ⟨i, hi, rfl⟩ := List.getElem_of_mem h
  have hi' : i < es.length := by simpa using hi
  exact ⟨i, es[i], hi', List.getElem_mem hi', by rw [List.getElem_mapIdx]⟩
theorem cv_ok {es : List SE} (hl : es.length ≤ 100) (hr : ∀ e ∈ es, RightS e ∧ e.n ≤ 2147483647) : ∀ e ∈ es.mapIdx cv, OkS e := by
  intro e' he
  obtain ⟨i, e, hi, hm, rfl⟩ := cv_mem he
  obtain ⟨⟨h1, h2, h3⟩, h4⟩ := hr e hm
  refine ⟨h1, h2, fun h => ?_, fun h => ?_, h4⟩
  · show 1 ≤ if e.k = 3 then e.num else (i : Int)
    have h' : e.k = 3 := h
    rw [if_pos h']
    exact h3 h'
  · have h' : e.k = 1 ∨ e.k = 2 := h
    refine ⟨i, ?_, by omega⟩
    show (if e.k = 3 then e.num else (i : Int)) = (i : Int)
    rw [if_neg (by omega)]
theorem cv_sound {es : List SE} (hs : SoundS es) : SoundS (es.mapIdx cv) := by
  intro e' he
  obtain ⟨i, e, hi, hm, rfl⟩ := cv_mem he
  exact hs e hm
theorem cv_steps {es : List SE} {w w' : World} {B n base : Nat} {A : Option Addr} {v : Value} (h : Steps w B A n es) (hb : Below B w w') (hB : B ≤ w'.heap.size) (ho : w'.ownsRow base 36 5 v n ((es.mapIdx cv).flatMap cells5)) :
    ∃ A' c', v = .slice A' n c' ∧ Steps w' w'.heap.size A' n (es.mapIdx cv) := by
  obtain ⟨A', c', rfl⟩ : ∃ A c, v = .slice A n c := by
    rcases ho.2 with ⟨rfl, h0⟩ | ⟨g, cap, cur, rfl, _⟩
    · have h1 := ho.1
      rw [h0] at h1
      obtain rfl : n = 0 := by simp at h1; omega
      exact ⟨none, 0, rfl⟩
    · exact ⟨_, cap, rfl⟩
  refine ⟨A', c', rfl, ⟨by simpa using h.1, Reads.of_own ho, fun e' he => ?_⟩⟩
  obtain ⟨i, e, hi, hm, rfl⟩ := cv_mem he
  exact Reads.more (Reads.below (h.2.2 e hm) hb) hB
theorem results_tmp4 {fn : Func} {t u v x : Tmp} (h : fn.results = #[.tmp t, .tmp u, .tmp v, .tmp x]) (tmps : Array Value) (P : Program) (w : World) :
    (results fn tmps).run P w = .ok (.tuple #[tmps.getD t undef, tmps.getD u undef, tmps.getD v undef, tmps.getD x undef]) w := by
  simp [results, h]

set_option maxRecDepth 100000 in
set_option maxHeartbeats 3200000 in
theorem stack_any (A : Option Addr) (n c : Nat) (es : List SE) (B : Nat) (w : World) (h : Steps w B A n es) (hB : B ≤ w.heap.size) (hn : n ≤ 100) (hr : ∀ e ∈ es, RightS e ∧ e.n ≤ 2147483647) (hs : SoundS es) :
    Calls Try.prog 7 #[.slice A n c] w (StPost ((es.mapIdx cv).map ssOf) n w) := by
  have HH := Lib.hid h
  have HR := Lib.hid hr
  have HS := Lib.hid hs
  have HL := Lib.hid h.1
  clear h hr hs
  obtain ⟨i1, hi1, hz1, hsz1, hb1⟩ := info_parts info_js
  go_enter Try.func7, Try.ntmps7
  go_wp2
  go_loopw [6, 12] (fun u t wr => ∃ k : Nat, k ≤ n ∧ t = .int .i64 k ∧ Hid (Below w.heap.size w wr) ∧ Hid (wr.ownsRow w.heap.size 36 5 u k (((es.mapIdx cv).take k).flatMap cells5))) (fun _ t _ => n - (intOf t).toNat)
  case atStart => exact ⟨0, Nat.zero_le _, rfl, Lib.hid (Below.refl _ _), Lib.hid (World.ownsRow_nil _ _ _ _)⟩
  case round =>
    obtain ⟨k, hk, rfl, HB, HU⟩ := hrel
    have hbs := HB.out.size
    by_cases hlt : k < n
    · obtain ⟨b, o, e, rfl, hb, hek, hstr, c0, c1, c2, c3, c4⟩ := (HH.out.below HB.out hB).at_ hlt
      have HE := Lib.hid (cv_take es hek)
      have hm := HR.out e (List.mem_of_getElem? hek)
      clear hek hstr
      obtain ⟨kk, A', m, c', ns, nm, num, tr⟩ := e
      simp only [RightS] at c0 c1 c2 c3 c4 hm
      obtain ⟨⟨hk1, hk5, hk3⟩, -⟩ := hm
      by_cases h3 : kk = 3
      · subst h3
        have hnum := hk3 rfl
        clear hk1 hk5 hk3
        go_wp2_with (at_builtin; refine wpList_append_x _ rfl (.tmp 51) (.tmp 53) 34 rfl w.heap.size 36 i1 _ 5 64 Try.underlying34 hi1 hz1 hsz1 hb1 rfl (by omega) u6 k (((es.mapIdx cv).take k).flatMap cells5) rfl (((HU.out.alloc _).alloc _).alloc _) (wr.heap.size + 3) (some ⟨wr.heap.size + 2, 0, none⟩) 1 1 (cells5 ⟨3, A', m, c', ns, nm, num, tr⟩) rfl (Reads.ofBlock (cs := #[.int .i64 3, .slice A' m c', .string nm, .int .i64 num, .bool tr]) (heap_new2 _ _ _ _) rfl (by omega)) (by simp [cells5, Value.oneCell']) (.inr (by omega)) (by unfold maxLen; omega) (by omega) (by simp; omega) (wr.heap.size + 3) (by simp) ?_; intro g2 cap2 w2 hown2 hgrow2 hat2 hlt2)
        have hb2 : Below w.heap.size w w2 := (((HB.out.alloc hbs _).alloc (by simp; omega) _).alloc (by simp; omega) _).grown hgrow2 (by simp; omega) (fun j hj => (HU.out.lt j hj).1)
        clear hgrow2 hat2
        go_roundw
        case rel => exact ⟨k + 1, by omega, by go_num, Lib.hid hb2, Lib.hid (by rw [HE.out, List.flatMap_append]; exact hown2)⟩
        case measure => simp [intOf]; omega
      · have e3 : (kk == 3) = false := by simpa using h3
        have HC : Hid (cells5 (cv k ⟨kk, A', m, c', ns, nm, num, tr⟩) = [.int .i64 kk, .slice A' m c', .string nm, .int .i64 (k : Int), .bool tr]) := Lib.hid (by
          show [Value.int .i64 kk, Value.slice A' m c', Value.string nm, Value.int .i64 (if kk = 3 then num else (k : Int)), Value.bool tr] = _
          rw [if_neg h3])
        clear hk3 h3
        go_wp2_with (at_builtin; refine wpList_append_x _ rfl (.tmp 51) (.tmp 53) 34 rfl w.heap.size 36 i1 _ 5 64 Try.underlying34 hi1 hz1 hsz1 hb1 rfl (by omega) u6 k (((es.mapIdx cv).take k).flatMap cells5) rfl (((HU.out.alloc _).alloc _).alloc _) (wr.heap.size + 3) (some ⟨wr.heap.size + 2, 0, none⟩) 1 1 [.int .i64 kk, .slice A' m c', .string nm, .int .i64 (k : Int), .bool tr] rfl (Reads.ofBlock (cs := #[.int .i64 kk, .slice A' m c', .string nm, .int .i64 (k : Int), .bool tr]) (heap_new2 _ _ _ _) rfl (by omega)) (by simp [Value.oneCell']) (.inr (by omega)) (by unfold maxLen; omega) (by omega) (by simp; omega) (wr.heap.size + 3) (by simp) ?_; intro g2 cap2 w2 hown2 hgrow2 hat2 hlt2)
        have hb2 : Below w.heap.size w w2 := (((HB.out.alloc hbs _).alloc (by simp; omega) _).alloc (by simp; omega) _).grown hgrow2 (by simp; omega) (fun j hj => (HU.out.lt j hj).1)
        clear hgrow2 hat2
        go_roundw
        case rel => exact ⟨k + 1, by omega, by go_num, Lib.hid hb2, Lib.hid (by rw [HE.out, List.flatMap_append, List.flatMap_cons, List.flatMap_nil, List.append_nil, HC.out]; exact hown2)⟩
        case measure => simp [intOf]; omega
    · obtain rfl : k = n := by omega
      have hown : wr.ownsRow w.heap.size 36 5 u6 k ((es.mapIdx cv).flatMap cells5) := by
        have := HU.out
        rwa [List.take_of_length_le (by simp [HL.out])] at this
      obtain ⟨A6, c6, rfl, hst⟩ := cv_steps HH.out (HB.out.mono hB) (by omega) hown
      have K := Lib.hid (part_any A6 k c6 _ wr.heap.size wr hst (Nat.le_refl _) hn (cv_ok (by rw [HL.out]; exact hn) HR.out) (cv_sound HS.out))
      clear hown hst
      go_wp2_with fail
      refine K.out.mono ?_
      rintro e5 w5 ⟨⟨A0, A1, A2, c0, c1, c2, rfl, r1, r2⟩, hb5⟩
      have HB5 := Lib.hid (HB.out.trans (hb5.mono hbs))
      have R1 := Lib.hid r1
      have R2 := Lib.hid r2
      clear r1 r2 hb5
      go_wp2_with fail
      refine bodyPost_ret (results_tmp4 rfl _ _ _) rfl ?_
      exact ⟨⟨A0, A1, A2, c0, c1, c2, rfl, R1.out, R2.out⟩, HB5.out⟩
end Go.Proofs.Ytkbjcpeogecbgaa
