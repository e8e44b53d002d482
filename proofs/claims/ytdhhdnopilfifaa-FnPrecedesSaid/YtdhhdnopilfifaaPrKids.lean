/-
  Kids, exprs, kinds: the places of a node's kids, and of which kinds they are.
-/
import Derived.Test.YtdhhdnopilfifaaPrSized
namespace Go.Proofs.Ytdhhdnopilfifaa
open Go.RowKit

/-- A slice of whole numbers, as it lies. -/
def KS (w : World) (A : Option Addr) (xs : List Int) : Prop :=
  xs = [] ∨ ∃ g off cs, A = some ⟨g, off, none⟩ ∧ w.heap[g]? = some (.cells cs 3 (0, 0)) ∧ ∀ (j : Nat) (x : Int), xs[j]? = some x → cs[off + j]? = some (.int .i64 x)
def natI (l : List Nat) : List Int := l.map fun k : Nat => (k : Int)
theorem KS.of_own {w : World} {base n c : Nat} {A : Option Addr} {xs : List Int} (h : w.ownsRow base 3 1 (.slice A n c) n (xs.map (Value.int .i64))) : KS w A xs := by
  have hl := h.1
  rcases h.2 with ⟨h0, hn⟩ | ⟨g, cap, cur, hv, _, hb, _, _, _, h4⟩
  · left
    subst hn
    exact List.eq_nil_of_length_eq_zero (by simpa using hl)
  · right
    injection hv with hA _ _
    refine ⟨g, 0, cur, hA, hb, fun j x hj => ?_⟩
    have hjl : j < n := by
      have := (List.getElem?_eq_some_iff.1 hj).1
      simp only [List.length_map] at hl
      omega
    have h5 : (cur.toList.take (n * 1))[j]? = (xs.map (Value.int .i64))[j]? := by rw [h4]
    rw [List.getElem?_take_of_lt (by omega), Array.getElem?_toList, List.getElem?_map, hj] at h5
    rw [Nat.zero_add]
    exact h5
theorem KS.at_ {w : World} {A : Option Addr} {xs : List Int} (h : KS w A xs) {j : Nat} {x : Int} (hj : xs[j]? = some x) : ∃ g off, A = some ⟨g, off, none⟩ ∧ g < w.heap.size ∧ w.cell? ⟨g, off + j, none⟩ = some (.int .i64 x) := by
  rcases h with rfl | ⟨g, off, cs, rfl, hb, hc⟩
  · simp at hj
  · exact ⟨g, off, rfl, heap_lt hb, (cell_of_row w g (off + j) cs 3 (0, 0) hb).trans (hc j x hj)⟩
theorem KS.below {w w' : World} {A : Option Addr} {xs : List Int} (h : KS w A xs) (hb : Below w.heap.size w w') : KS w' A xs := by
  rcases h with rfl | ⟨g, off, cs, rfl, hh, hc⟩
  · exact .inl rfl
  · exact .inr ⟨g, off, cs, rfl, (hb.block g (heap_lt hh)).trans hh, hc⟩
theorem KS.tail {w : World} {g off : Nat} {a : Int} {xs : List Int} (h : KS w (some ⟨g, off, none⟩) (a :: xs)) : KS w (some ⟨g, off + 1, none⟩) xs := by
  rcases h with h | ⟨g', off', cs, hA, hh, hc⟩
  · cases h
  · cases hA
    refine .inr ⟨g, off + 1, cs, rfl, hh, fun j x hj => ?_⟩
    have := hc (j + 1) x (by simpa using hj)
    rw [← this]
    congr 1
    omega
theorem KS.take {w : World} {A : Option Addr} {xs ys : List Int} (h : KS w A (xs ++ ys)) : KS w A xs := by
  rcases h with h | ⟨g', off', cs, hA, hh, hc⟩
  · left
    exact (List.append_eq_nil_iff.1 h).1
  · refine .inr ⟨g', off', cs, hA, hh, fun j x hj => hc j x ?_⟩
    rw [List.getElem?_append_left (List.getElem?_eq_some_iff.1 hj).1]
    exact hj
theorem KS.new (w : World) (cs : Array Value) (xs : List Int) (h : cs.toList = xs.map (Value.int .i64)) : KS (w.alloc (.cells cs 3)) (some ⟨w.heap.size, 0, none⟩) xs := by
  refine .inr ⟨_, 0, cs, rfl, heap_alloc_new w _, fun j x hj => ?_⟩
  rw [Nat.zero_add, ← Array.getElem?_toList, h, List.getElem?_map, hj]
  rfl
theorem natI_get {l : List Nat} {j k : Nat} (h : l[j]? = some k) : (natI l)[j]? = some (k : Int) := by unfold natI; rw [List.getElem?_map, h]; rfl
/-- What Kids leaves. -/
def KdPost (l : List Nat) (w : World) (e : Ending) (w' : World) : Prop := (∃ A c, e = .returned (.slice A l.length c) ∧ w'.ownsRow w.heap.size 3 1 (.slice A l.length c) l.length ((natI l).map (Value.int .i64))) ∧ Below w.heap.size w w'
/-- So far: the kids met, and those to come. -/
def KiI (es : List ND) (_at_ : Nat) (l : List Nat) (w wr : World) (u : Value) (k e : Nat) : Prop :=
  ∃ l1 l2, l = l1 ++ l2 ∧ KidsIs es k e l2 ∧ wr.ownsRow w.heap.size 3 1 u l1.length ((natI l1).map (Value.int .i64)) ∧ Below w.heap.size w wr
set_option maxRecDepth 100000 in
set_option maxHeartbeats 1600000 in
theorem Kids_any (A : Option Addr) (n c : Nat) (es : List ND) (B : Nat) (w : World) (h : Nodes w B A n es) (hB : B ≤ w.heap.size) (hn : n ≤ 1000000) (at_ : Nat) (l : List Nat) (hf : FitN es es.length at_ l) :
    Calls Try.prog 28 #[.slice A n c, .int .i64 at_] w (KdPost l w) := by
  have HH := Lib.hid h
  have HL := Lib.hid h.1
  obtain ⟨x, hx, hx1, hx2, hk⟩ := hf
  obtain ⟨i0, hi, hz, hsz, hbb⟩ := info_parts info_int
  have hat : at_ < n := by have := (List.getElem?_eq_some_iff.1 hx).1; rw [h.1] at this; exact this
  obtain ⟨b, o, e, rfl, hbB, hek, -, -, -, -, c4⟩ := h.at_ hat
  rw [hx] at hek
  cases hek
  have hle : (at_ : Int) + x.size ≤ n := by rw [← h.1]; exact hx2
  obtain ⟨sz, hsz0⟩ : ∃ sz : Nat, x.size = sz := ⟨x.size.toNat, by omega⟩
  rw [hsz0] at c4 hx1 hle hk
  have hlen := hk.len
  have HK := Lib.hid (show KidsIs es (at_ + 1) (at_ + sz) l from hk)
  clear h hx hx2 hsz0 hk
  have hle2 : at_ + sz ≤ n := by omega
  go_enter Try.func28, Try.ntmps28
  go_wp2_with fail
  go_loopw [5, 6] (fun u t wr => ∃ k : Nat, at_ + 1 ≤ k ∧ k ≤ at_ + sz ∧ t = .int .i64 k ∧ Hid (KiI es at_ l w wr u k (at_ + sz))) (fun _ t _ => at_ + sz - (intOf t).toNat)
  case atStart => exact ⟨at_ + 1, Nat.le_refl _, by omega, by go_num, Lib.hid ⟨[], l, rfl, HK.out, World.ownsRow_nil _ _ _ _, Below.refl _ _⟩⟩
  case round =>
    obtain ⟨k, hk1, hk2, rfl, HI⟩ := hrel
    obtain ⟨l1, l2, hl, hki, hrow, hb⟩ := HI.out
    have HB := Lib.hid hb
    have HR := Lib.hid hrow
    have HLL := Lib.hid hl
    have hb1 := hb.size
    have c4r := (HB.out.cell (p := ⟨b, o + at_ * 5 + 4, none⟩) (by show b < _; omega)).trans c4
    by_cases hlt : k < at_ + sz
    · have hll : l1.length + l2.length = l.length := by rw [hl]; simp
      cases hki with
      | nil => omega
      | cons hy g1 g2 hki =>
        rename_i y l3
        obtain ⟨b', o', e', he', hbb', hek', -, -, -, -, c4k⟩ := (HH.out.below HB.out hB).at_ (show k < n by omega)
        cases he'
        rw [hy] at hek'
        cases hek'
        obtain ⟨sk, hsk⟩ : ∃ sk : Nat, y.size = sk := ⟨y.size.toNat, by omega⟩
        rw [hsk] at c4k g1 g2 hki
        have HKI := Lib.hid (show KidsIs es (k + sk) (at_ + sz) l3 from hki)
        simp only [List.length_cons] at hll
        clear hy hki hrow hb hl hbb' hsk
        go_wp2_with (at_builtin; refine wpList_append_x _ rfl (.tmp 25) (.tmp 27) 77 rfl w.heap.size 3 i0 _ 1 8 Try.underlying77 hi hz hsz hbb rfl (by omega) u5 l1.length _ rfl (HR.out.alloc _) (wr.heap.size + 1) (some ⟨wr.heap.size, 0, none⟩) 1 1 [.int .i64 k] rfl (Reads.ofBlock (cs := #[.int .i64 k]) (heap_alloc_new _ _) rfl (by omega)) (by simp [Value.oneCell']) (.inr (by omega)) (by unfold maxLen; omega) (by omega) (by simp; omega) (wr.heap.size + 1) (by simp) ?_; intro g2' cap2 w2 hown2 hgrow2 hat2 hlt2; have hsw : (wr.alloc (.cells #[.int .i64 k] 3)).heap.size = wr.heap.size + 1 := (by simp); have hbw2 := (HB.out.alloc hb1 (.cells #[.int .i64 k] 3)).grown hgrow2 (by omega) (fun j hj => (HR.out.lt j hj).1); have c4k2 := (hbw2.cell (p := ⟨b, o + k * 5 + 4, none⟩) (by show b < _; omega)).trans ((HB.out.cell (p := ⟨b, o + k * 5 + 4, none⟩) (by show b < _; omega)).symm.trans c4k))
        have HN := Lib.hid (show KiI es at_ l w w2 (.slice (some ⟨g2', 0, none⟩) (l1.length + 1) cap2) (k + sk) (at_ + sz) from
          ⟨l1 ++ [k], l3, by rw [HLL.out]; simp, HKI.out, by
            have : (natI (l1 ++ [k])).map (Value.int .i64) = (natI l1).map (Value.int .i64) ++ [.int .i64 k] := by simp [natI]
            rw [this, List.length_append]
            exact hown2, hbw2⟩)
        clear hown2 hgrow2 hat2 hbw2 hsw
        go_roundw
        case rel => exact ⟨k + sk, by omega, by omega, by go_num, HN⟩
        case measure => simp [intOf]; omega
    · obtain rfl : k = at_ + sz := by omega
      have hl2 : l2 = [] := by
        cases hki with
        | nil => rfl
        | cons hy g1 g2 hki => omega
      subst hl2
      have hl1 : l = l1 := by rw [hl]; simp
      subst hl1
      clear hl hki
      obtain ⟨A5, c5, rfl⟩ := own_form hrow
      clear hrow hb
      go_wp2_with fail
      go_ret
      exact ⟨⟨A5, c5, rfl, HR.out⟩, HB.out⟩
set_option maxRecDepth 100000 in
set_option maxHeartbeats 1600000 in
theorem exprs_any (A : Option Addr) (n c : Nat) (es : List ND) (B : Nat) (w : World) (h : Nodes w B A n es) (hB : B ≤ w.heap.size) (hn : n ≤ 1000000) (A2 : Option Addr) (c2 : Nat) (l : List Nat) (hk : KS w A2 (natI l)) (hl : ∀ k ∈ l, k < n) (hll : l.length ≤ 1000000) :
    Calls Try.prog 29 #[.slice A n c, .slice A2 l.length c2] w (BPost (∀ k ∈ l, Ex es k) w) := by
  have HH := Lib.hid h
  have HK := Lib.hid hk
  have HL := Lib.hid hl
  clear h hk hl
  go_enter Try.func29, Try.ntmps29
  go_wp2_with fail
  go_loopw [5] (fun t wr => ∃ j : Nat, j ≤ l.length ∧ t = .int .i64 j ∧ Hid (∀ k ∈ l.take j, Ex es k) ∧ Hid (Below w.heap.size w wr)) (fun t _ => l.length - (intOf t).toNat)
  case atStart => exact ⟨0, Nat.zero_le _, rfl, Lib.hid (fun k hk => by cases hk), Lib.hid (Below.refl _ _)⟩
  case round =>
    obtain ⟨j, hj, rfl, HE, HB⟩ := hrel
    by_cases hlt : j < l.length
    · have hg := List.getElem?_eq_getElem hlt
      have hm := List.getElem_mem hlt
      generalize l[j] = k at *
      have hkn := HL.out k hm
      obtain ⟨g, off, rfl, -, hc⟩ := (HK.out.below HB.out).at_ (natI_get hg)
      have HG := Lib.hid hg
      clear hg hm
      have K := Lib.hid (expr_any A n c es B wr (HH.out.below HB.out hB) k hkn (by omega))
      go_wp2_with fail
      refine K.out.mono ?_
      rintro e1 w1 ⟨⟨b, rfl, hb⟩, hw1⟩
      have HB1 := Lib.hid (HB.out.trans (hw1.mono HB.out.size))
      cases b
      · clear hb hw1
        go_wp2_with fail
        go_ret
        exact BPost.ret rfl (fun h => by cases h) HB1.out
      · have hx := hb (by trivial)
        have HN : Hid (∀ k ∈ l.take (j + 1), Ex es k) := Lib.hid (fun a ha => by
          rw [List.take_add_one, HG.out, Option.toList_some, List.mem_append, List.mem_singleton] at ha
          rcases ha with ha | rfl
          · exact HE.out a ha
          · exact hx)
        clear hb hw1 hx
        go_wp2_with fail
        go_roundw
        case rel => exact ⟨j + 1, by omega, by go_num, HN, HB1⟩
        case measure => simp [intOf]; omega
    · obtain rfl : j = l.length := by omega
      have HN : Hid (∀ k ∈ l, Ex es k) := Lib.hid (by have := HE.out; rwa [List.take_length] at this)
      go_wp2_with fail
      go_ret
      exact BPost.ret rfl (fun _ => HN.out) HB.out
end Go.Proofs.Ytdhhdnopilfifaa
