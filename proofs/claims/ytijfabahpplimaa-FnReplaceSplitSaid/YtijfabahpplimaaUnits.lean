/-
  spec.Units: if it says that a text is UTF-8, it has the code points that the language reads.
-/
import Derived.Test.YtijfabahpplimaaPointN
namespace Go.Proofs.Ytijfabahpplimaa
open Go.RowKit

def runesOf (l : List Nat) : Array Value := (l.map fun r => Value.int .i32 (Int.ofNat r)).toArray
def intsOf (l : List Nat) : List Value := l.map fun r => Value.int .i64 (Int.ofNat r)
/-- So far these code points have been read, and the place is here. -/
def Upto (s : ByteArray) (i : Nat) (l : List Nat) : Prop := l.length ≤ i ∧ (∀ x ∈ l, x ≤ 1114111) ∧ ∃ b, s.size - i ≤ b ∧ Conv.runesFrom s s.size 0 #[] = Conv.runesFrom s b i (runesOf l)
/-- These are the code points of the text up to a place. -/
inductive Pts (s : ByteArray) : Nat → List Nat → Prop
  | nil : Pts s 0 []
  | snoc {i r n : Nat} {l : List Nat} (h : Pts s i l) (hp : PtOk s i r n) : Pts s (i + n) (l ++ [r])
theorem upto_start (s : ByteArray) : Upto s 0 [] := ⟨by simp, (fun x hx => by cases hx), s.size, by omega, rfl⟩
theorem upto_step {s : ByteArray} {i r n : Nat} {l : List Nat} (h : Upto s i l) (hi : i < s.size) (hp : PtOk s i r n) : Upto s (i + n) (l ++ [r]) := by
  obtain ⟨hl, hx, b, hb, he⟩ := h
  obtain ⟨h1, h2, h3, h4, -⟩ := hp
  obtain ⟨c, rfl⟩ : ∃ c, b = c + 1 := ⟨b - 1, by omega⟩
  refine ⟨by simp; omega, (fun x hm => by
    rw [List.mem_append] at hm
    rcases hm with hm | hm
    · exact hx x hm
    · simp at hm; subst hm; exact h4), c, by omega, ?_⟩
  rw [he]
  rw [show Conv.runesFrom s (c + 1) i (runesOf l) = if i < s.size then Conv.runesFrom s c (i + (Utf8.decode s i).2) ((runesOf l).push (.int .i32 (Int.ofNat (Utf8.decode s i).1))) else runesOf l from rfl]
  rw [if_pos hi, h3]
  congr 1
  simp [runesOf]
theorem upto_end {s : ByteArray} {l : List Nat} (h : Upto s s.size l) : Conv.runesFrom s s.size 0 #[] = runesOf l := by
  obtain ⟨-, -, b, -, he⟩ := h
  rw [he]
  cases b with
  | zero => rfl
  | succ c =>
    rw [show Conv.runesFrom s (c + 1) s.size (runesOf l) = if s.size < s.size then Conv.runesFrom s c (s.size + (Utf8.decode s s.size).2) ((runesOf l).push (.int .i32 (Int.ofNat (Utf8.decode s s.size).1))) else runesOf l from rfl]
    rw [if_neg (by omega)]

theorem info_int : (Try.prog.info? 3).map (fun i => (i.zero, i.size, i.bytes)) = some (some (.int .i64 0), 1, 8) := by kernel_rfl
theorem heap_new0 (w : World) (o : Obj) : (w.alloc o).heap[w.heap.size]? = some o := heap_alloc_new w o
theorem Reads.ofBlock {w : World} {B size n g : Nat} {cs : Array Value} {t : TypeId} {fr : Nat × Nat} (h : w.heap[g]? = some (.cells cs t fr)) (hs : cs.size = n * size) (hg : g < B) : Reads w B size (some ⟨g, 0, none⟩) n cs.toList :=
  ⟨by simpa using hs, fun _ => ⟨_, rfl, hg, World.news_of_block h⟩⟩

/-- What Units answers: the code points, or that there are none. -/
def UnPost (s : ByteArray) (w : World) (e : Ending) (w' : World) : Prop :=
  (e = .returned (.tuple #[.slice none 0 0, .bool false]) ∨ ∃ v l, e = .returned (.tuple #[v, .bool true]) ∧ w'.ownsRow w.heap.size 3 1 v l.length (intsOf l) ∧ Conv.runesFrom s s.size 0 #[] = runesOf l ∧ l.length ≤ s.size ∧ (∀ x ∈ l, x ≤ 1114111) ∧ Pts s s.size l) ∧ Below w.heap.size w w'

set_option maxRecDepth 100000 in
set_option maxHeartbeats 1600000 in
theorem units_any (s : ByteArray) (hs : s.size ≤ 2147483647) (w : World) :
    Calls Try.prog 12 #[.string s] w fun e w' => UnPost s w e w' := by
  obtain ⟨i0, hi, hz, hs0, hb⟩ := info_parts info_int
  have hmade := World.ownsRow_made (e := 3) (size := 1) w #[] 0 (Nat.le_refl _) (by unfold maxLen; omega) (by simp)
  have HM := Lib.hid hmade
  clear hmade
  go_enter Try.func12, Try.ntmps12
  go_wp2
  go_loopw [4, 5] (fun v t wr => ∃ (j : Nat) (l : List Nat), j ≤ s.size ∧ t = .int .i64 j ∧ Below w.heap.size w wr ∧ wr.ownsRow w.heap.size 3 1 v l.length (intsOf l) ∧ Hid (Upto s j l) ∧ Hid (Pts s j l)) (fun _ t _ => s.size - (intOf t).toNat)
  case atStart => exact ⟨0, [], Nat.zero_le _, rfl, (Below.refl _ _).alloc (Nat.le_refl _) _, HM.out, upto_start s, Lib.hid .nil⟩
  case round =>
    obtain ⟨j, l, hj, rfl, hbel, hown, HU, HP0⟩ := hrel
    by_cases hlt : j < s.size
    · have HO := Lib.hid hown
      have HBL := Lib.hid hbel
      have hbs := hbel.size
      have hll : l.length ≤ j := HU.out.1
      clear hown hbel
      go_wp2_with fail
      refine (point_any s j hlt hs _).mono ?_
      rintro e w1 ⟨⟨r, n, rfl, hrn⟩, rfl⟩
      rcases Nat.eq_zero_or_pos n with h0 | h0
      · subst h0
        clear hrn
        go_wp2_with fail
        go_ret2
        exact ⟨.inl rfl, HBL.out⟩
      · have hp : PtOk s j r n := by
          rcases hrn with h | h
          · omega
          · exact h
        have hnn : ((n : Int) == 0) = false := by simp; omega
        have hjn : j + n ≤ s.size := hp.2.1
        have HP := Lib.hid hp
        clear hrn hp
        go_wp2_with (at_builtin; refine wpList_append_x _ rfl (.tmp 21) (.tmp 23) 22 rfl w.heap.size 3 i0 _ 1 8 Try.underlying22 hi hz hs0 hb rfl (by omega) u4 l.length _ rfl (HO.out.alloc _) (wr.heap.size + 1) (some ⟨wr.heap.size, 0, none⟩) 1 1 [.int .i64 r] rfl (Reads.ofBlock (cs := #[.int .i64 r]) (heap_new0 _ _) rfl (by omega)) (by simp [Value.oneCell']) (.inr (by omega)) (by unfold maxLen; omega) (by omega) (by simp; omega) (wr.heap.size + 1) (by simp) ?_; intro g2 cap2 w2 hown2 hgrow2 hat2 hlt2)
        have hb2 : Below w.heap.size w w2 := (HBL.out.alloc hbs _).grown hgrow2 (by simp; omega) (fun k hk => (HO.out.lt k hk).1)
        clear hgrow2 hat2
        go_roundw
        case rel => exact ⟨j + n, l ++ [r], hjn, by go_num, hb2, by
          have e1 : (l ++ [r]).length = l.length + 1 := by simp
          have e2 : intsOf (l ++ [r]) = intsOf l ++ [.int .i64 (r : Int)] := by simp [intsOf]
          rw [e1, e2]; exact hown2, upto_step HU.out hlt HP.out, Lib.hid (.snoc HP0.out HP.out)⟩
        case measure => simp [intOf]; omega
    · obtain rfl : j = s.size := by omega
      have HO := Lib.hid hown
      have HBL := Lib.hid hbel
      clear hown hbel
      go_wp2_with fail
      go_ret2
      exact ⟨.inr ⟨_, l, rfl, HO.out, upto_end HU.out, HU.out.1, HU.out.2.1, HP0.out⟩, HBL.out⟩

theorem units9_any (s : ByteArray) (hs : s.size ≤ 2147483647) (w : World) :
    Calls Try.prog 6 #[.string s] w fun e w' => UnPost s w e w' := by
  by_cases hbig : 2000 < s.size
  · go_enter Try.func6, Try.ntmps6
    go_wp2_with fail
    go_ret2
    exact ⟨.inl rfl, Below.refl _ _⟩
  · go_enter Try.func6, Try.ntmps6
    go_wp2_with fail
    refine (units_any s hs _).mono ?_
    rintro e w1 ⟨h, hb⟩
    have HB := Lib.hid hb
    clear hb
    rcases h with rfl | ⟨v, l, rfl, h1, h2, h3, h4⟩
    · go_wp2_with fail
      go_ret2
      exact ⟨.inl rfl, HB.out⟩
    · have H1 := Lib.hid h1
      have H2 := Lib.hid h2
      have H4 := Lib.hid h4
      clear h1 h2 h4
      go_wp2_with fail
      go_ret2
      exact ⟨.inr ⟨v, l, rfl, H1.out, H2.out, h3, H4.out⟩, HB.out⟩
end Go.Proofs.Ytijfabahpplimaa
