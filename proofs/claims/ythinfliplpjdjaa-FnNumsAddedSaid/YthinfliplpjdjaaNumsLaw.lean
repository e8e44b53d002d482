/-
  impl.NumsAdded, and what FnNumsAdded asks of it: finite7, joined7, same7.
-/
import Derived.Test.YthinfliplpjdjaaNumsCat
namespace Go.Proofs.Ythinfliplpjdjaa
open Go.RowKit Ieee

def AddPost (xs : List Nat) (w : World) (e : Ending) (w' : World) : Prop :=
  ∃ v, e = .returned (.tuple #[v, .bool true]) ∧ w'.ownsRow w.heap.size 50 1 v xs.length (xs.map (Value.float .f64)) ∧ Below w.heap.size w w'

theorem own_base {w : World} {b b' e size n : Nat} {v : Value} {cs : List Value} (h : w.ownsRow b e size v n cs) (hb : b' ≤ b) : w.ownsRow b' e size v n cs := by
  refine ⟨h.1, ?_⟩
  rcases h.2 with h2 | ⟨g, cap, cur, h3, h4, h5⟩
  · exact .inl h2
  · exact .inr ⟨g, cap, cur, h3, Nat.le_trans hb h4, h5⟩

theorem partAdded_any (A1 A2 : Option Addr) (n m c1 c2 : Nat) (xs ys : List Nat) (w : World) (h1 : Flts w w.heap.size A1 n xs) (h2 : Flts w w.heap.size A2 m ys) (hn : n ≤ 200) (hm : m ≤ 200) :
    Calls Try.prog 39 #[.slice A1 n c1, .slice A2 m c2] w fun e w' => OfPost (xs ++ ys) w e w' := by
  have H1 := Lib.hid h1
  have H2 := Lib.hid h2
  clear h1 h2
  go_enter Try.func39, Try.ntmps39
  go_wp2_with fail
  refine (nums_any A1 n c1 xs w.heap.size _ H1.out (Nat.le_refl _) (by omega)).mono ?_
  rintro e w1 ⟨p1, rfl, a1, b1⟩
  have HA1 := Lib.hid a1
  have HB1 := Lib.hid b1
  clear a1 b1
  go_wp2_with fail
  refine (nums_any A2 m c2 ys w.heap.size _ (H2.out.below HB1.out) HB1.out.size (by omega)).mono ?_
  rintro e w2 ⟨p2, rfl, a2, b2⟩
  have HA2 := Lib.hid a2
  have HB2 := Lib.hid b2
  clear a2 b2
  go_wp2_with fail
  refine (concat_any p1 p2 xs ys _ ((HA1.out.below HB2.out (Nat.le_refl _)).more HB2.out.size) HA2.out (by rw [H1.out.len]; omega) (by rw [H2.out.len]; omega)).mono ?_
  rintro e w3 ⟨p3, rfl, a3, b3⟩
  have HA3 := Lib.hid a3
  have HB3 := Lib.hid b3
  clear a3 b3
  go_wp2_with fail
  refine (numsOf_any p3 (xs ++ ys) _ HA3.out (by rw [List.length_append, H1.out.len, H2.out.len]; omega)).mono ?_
  rintro e w4 ⟨v, rfl, a4, b4⟩
  have HA4 := Lib.hid a4
  have hB : Below w.heap.size w w3 := HB1.out.trans ((HB2.out.trans (HB3.out.mono HB2.out.size)).mono HB1.out.size)
  have HB4 := Lib.hid (hB.trans (b4.mono hB.size))
  have HL := Lib.hid hB.size
  clear a4 b4 hB
  go_wp2_with fail
  go_ret2
  exact ⟨v, rfl, own_base HA4.out HL.out, HB4.out⟩

theorem listed_any (v : Value) (w : World) : Calls Try.prog 38 #[v, .nilIface] w fun e w' => e = .returned (.tuple #[v, .bool true]) ∧ w = w' := by
  go_enter Try.func38, Try.ntmps38
  go_wp2
  go_ret2
  exact ⟨rfl, rfl⟩
theorem numsAdded_any (A1 A2 : Option Addr) (n m c1 c2 : Nat) (xs ys : List Nat) (w : World) (h1 : Flts w w.heap.size A1 n xs) (h2 : Flts w w.heap.size A2 m ys) (hn : n ≤ 200) (hm : m ≤ 200) :
    Calls Try.prog 14 #[.slice A1 n c1, .slice A2 m c2] w fun e w' => AddPost (xs ++ ys) w e w' := by
  have H1 := Lib.hid h1
  have H2 := Lib.hid h2
  clear h1 h2
  go_enter Try.func14, Try.ntmps14
  go_wp2_with fail
  refine (partAdded_any A1 A2 n m c1 c2 xs ys _ H1.out H2.out hn hm).mono ?_
  rintro e w1 ⟨v, rfl, a1, b1⟩
  have HA1 := Lib.hid a1
  have HB1 := Lib.hid b1
  clear a1 b1
  go_wp2_with fail
  refine (listed_any v _).mono ?_
  rintro e w' ⟨rfl, rfl⟩
  go_wp2_with fail
  go_ret2
  exact ⟨v, rfl, HA1.out, HB1.out⟩

def JoinPost (xs : List Nat) (w : World) (e : Ending) (w' : World) : Prop :=
  ∃ v, e = .returned v ∧ w'.ownsRow w.heap.size 50 1 v xs.length (xs.map (Value.float .f64)) ∧ Below w.heap.size w w'
theorem flt_one (xs : List Nat) : ∀ u ∈ xs.map (Value.float .f64), u.oneCell' = true := by
  intro u hu
  obtain ⟨_, _, rfl⟩ := List.mem_map.1 hu
  rfl
set_option maxRecDepth 100000 in
theorem joined_any (A1 A2 : Option Addr) (n m c1 c2 : Nat) (xs ys : List Nat) (B : Nat) (w : World) (h1 : Flts w B A1 n xs) (h2 : Flts w B A2 m ys) (hB : B ≤ w.heap.size) (hn : n ≤ 200) (hm : m ≤ 200) :
    Calls Try.prog 16 #[.slice A1 n c1, .slice A2 m c2] w fun e w' => JoinPost (xs ++ ys) w e w' := by
  have H1 := Lib.hid h1
  have H2 := Lib.hid h2
  clear h1 h2
  obtain ⟨i0, hi, hz, hs, hb⟩ := info_parts info_flt
  have hown0 := World.ownsRow_made (e := 50) (size := 1) w #[] 0 (Nat.le_refl _) (by unfold maxLen; omega) (by simp)
  have hb0 : Below w.heap.size w (w.alloc (.cells #[] 50)) := (Below.refl _ _).alloc (Nat.le_refl _) _
  have HOWN := Lib.hid hown0
  have HB0 := Lib.hid hb0
  clear hown0 hb0
  go_enter Try.func16, Try.ntmps16
  go_wp2_with (first
    | (at_builtin; refine wpList_append_any _ rfl (.tmp 5) (.tmp 6) 30 rfl w.heap.size 50 i0 _ 1 8 Try.underlying30 hi hz hs hb rfl (by omega) (.slice (some ⟨w.heap.size, 0, none⟩) 0 0) 0 [] rfl HOWN.out B A1 n c1 _ rfl (H1.out.below (HB0.out.mono hB)) (flt_one xs) (by unfold maxLen; omega) (by omega) HB0.out.size ?_; intro v1 w1 hown1 hg1 hat1; have hb1 : Below w.heap.size w w1 := HB0.out.grown hg1 HB0.out.size (fun k hk => (HOWN.out.lt k hk).1); have HB1 := Lib.hid hb1; have HW1 := Lib.hid hown1; clear hown1 hb1 hg1 hat1)
    | (at_builtin; refine wpList_append_any _ rfl (.tmp 7) (.tmp 8) 30 rfl w.heap.size 50 i0 _ 1 8 Try.underlying30 hi hz hs hb rfl (by omega) v1 (0 + n) _ rfl HW1.out B A2 m c2 _ rfl (H2.out.below (HB1.out.mono hB)) (flt_one ys) (by unfold maxLen; omega) (by omega) HB1.out.size ?_; intro v2 w2 hown2 hg2 hat2; have hb2 : Below w.heap.size w w2 := HB1.out.grown hg2 HB1.out.size (fun k hk => (HW1.out.lt k hk).1); have HB2 := Lib.hid hb2; have HW2 := Lib.hid hown2; clear hown2 hb2 hg2 hat2))
  go_ret
  refine ⟨v2, rfl, ?_, HB2.out⟩
  have h3 := HW2.out
  have e : 0 + n + m = (xs ++ ys).length := by rw [List.length_append, H1.out.len, H2.out.len]; omega
  rw [e, List.nil_append] at h3
  rw [List.map_append]
  exact h3
end Go.Proofs.Ythinfliplpjdjaa
