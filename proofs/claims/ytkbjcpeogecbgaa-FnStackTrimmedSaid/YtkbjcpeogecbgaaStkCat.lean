/-
  steps7 of two lists: one behind the other.
-/
import Derived.Test.YtkbjcpeogecbgaaStk
namespace Go.Proofs.Ytkbjcpeogecbgaa
open Go.RowKit

theorem info_ss : (Try.prog.info? 27).map (fun i => (i.zero, i.size, i.bytes)) = some (some (.agg #[.int .i64 0, .slice none 0 0, .string ByteArray.empty, .int .i64 0, .bool false]), 5, 64) := by kernel_rfl
theorem cells5_one (es : List SE) : ∀ u ∈ es.flatMap cells5, u.oneCell' = true := by
  intro u hu
  obtain ⟨e, _, he⟩ := List.mem_flatMap.1 hu
  simp only [cells5, List.mem_cons, List.not_mem_nil, or_false] at he
  rcases he with rfl | rfl | rfl | rfl | rfl <;> rfl
def acc2 (es1 es2 : List SE) : Nat → List SE
  | 0 => []
  | 1 => es1
  | _ => es1 ++ es2
def CatPost (es : List SE) (w : World) (e : Ending) (w' : World) : Prop := (∃ v, e = .returned v ∧ w'.ownsRow w.heap.size 27 5 v es.length (es.flatMap cells5)) ∧ Below w.heap.size w w'
set_option maxRecDepth 100000 in
set_option maxHeartbeats 1600000 in
theorem steps7_any (g c : Nat) (A1 A2 : Option Addr) (n1 n2 c1 c2 : Nat) (es1 es2 : List SE) (w : World) (h1 : Steps w w.heap.size A1 n1 es1) (h2 : Steps w w.heap.size A2 n2 es2) (hg : g < w.heap.size) (k0 : w.cell? ⟨g, 0, none⟩ = some (.slice A1 n1 c1)) (k1 : w.cell? ⟨g, 1, none⟩ = some (.slice A2 n2 c2)) (hn1 : n1 ≤ 1000) (hn2 : n2 ≤ 1000) :
    Calls Try.prog 6 #[.slice (some ⟨g, 0, none⟩) 2 c] w (CatPost (es1 ++ es2) w) := by
  have H1 := Lib.hid h1
  have H2 := Lib.hid h2
  clear h1 h2
  obtain ⟨i0, hi, hz, hs, hb⟩ := info_parts info_ss
  go_enter Try.func6, Try.ntmps6
  go_wp2
  go_loopw [3, 4] (fun u t wr => ∃ j : Nat, j ≤ 2 ∧ t = .int .i64 j ∧ Hid (Below w.heap.size w wr) ∧ Hid (wr.ownsRow w.heap.size 27 5 u (acc2 es1 es2 j).length ((acc2 es1 es2 j).flatMap cells5))) (fun _ t _ => 2 - (intOf t).toNat)
  case atStart => exact ⟨0, Nat.zero_le _, rfl, Lib.hid (Below.refl _ _), Lib.hid (World.ownsRow_nil _ _ _ _)⟩
  case round =>
    obtain ⟨j, hj, rfl, HB, HO⟩ := hrel
    have hbs := HB.out.size
    have e0 := (HB.out.cell (p := ⟨g, 0, none⟩) hg).trans k0
    have e1 := (HB.out.cell (p := ⟨g, 1, none⟩) hg).trans k1
    obtain rfl | rfl | rfl : j = 0 ∨ j = 1 ∨ j = 2 := by omega
    · have hl : es1.length = n1 := H1.out.1
      have HL := Lib.hid hl
      clear hl
      go_wp2_with (at_builtin; refine wpList_append_any _ rfl (.tmp 11) (.tmp 15) 22 rfl w.heap.size 27 i0 _ 5 64 Try.underlying22 hi hz hs hb rfl (by omega) u3 0 [] rfl HO.out w.heap.size A1 n1 c1 (es1.flatMap cells5) rfl (H1.out.2.1.below HB.out) (cells5_one es1) (by unfold maxLen; omega) (by omega) hbs ?_; intro v1 w1 hown1 hg1 hat1)
      have hb1 : Below w.heap.size w w1 := HB.out.grown hg1 hbs (fun k hk => (HO.out.lt k hk).1)
      clear hg1 hat1
      go_roundw
      case rel => exact ⟨1, by omega, rfl, Lib.hid hb1, Lib.hid (by
        rw [Nat.zero_add, List.nil_append] at hown1
        show w1.ownsRow w.heap.size _ 5 _ es1.length _
        rw [HL.out]; exact hown1)⟩
      case measure => decide
    · have hl : es1.length = n1 := H1.out.1
      have hl2 : es2.length = n2 := H2.out.1
      have HL := Lib.hid (And.intro hl hl2)
      have HO' : Hid (wr.ownsRow w.heap.size 27 5 u3 n1 (es1.flatMap cells5)) := Lib.hid (by rw [← hl]; exact HO.out)
      clear hl hl2
      go_wp2_with (at_builtin; refine wpList_append_any _ rfl (.tmp 11) (.tmp 15) 22 rfl w.heap.size 27 i0 _ 5 64 Try.underlying22 hi hz hs hb rfl (by omega) u3 n1 (es1.flatMap cells5) rfl HO'.out w.heap.size A2 n2 c2 (es2.flatMap cells5) rfl (H2.out.2.1.below HB.out) (cells5_one es2) (by unfold maxLen; omega) (by omega) hbs ?_; intro v1 w1 hown1 hg1 hat1)
      have hb1 : Below w.heap.size w w1 := HB.out.grown hg1 hbs (fun k hk => (HO.out.lt k hk).1)
      clear hg1 hat1
      go_roundw
      case rel => exact ⟨2, by omega, rfl, Lib.hid hb1, Lib.hid (by
        show w1.ownsRow w.heap.size _ 5 _ (es1 ++ es2).length ((es1 ++ es2).flatMap cells5)
        rw [List.length_append, HL.out.1, HL.out.2, List.flatMap_append]; exact hown1)⟩
      case measure => decide
    · go_wp2_with fail
      go_ret
      exact ⟨⟨_, rfl, HO.out⟩, HB.out⟩
end Go.Proofs.Ytkbjcpeogecbgaa
