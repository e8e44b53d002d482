/-
  spec.OfUnits: the text of code points.
-/
import Derived.Test.YtijfabahpplimaaOfUnits
import Derived.Lib.AppendStr
import Derived.Laws.OwnMore
namespace Go.Proofs.Ytijfabahpplimaa
open Go.RowKit

theorem row_lt {w : World} {g : Nat} {o : Obj} (h : w.heap[g]? = some o) : g < w.heap.size := by
  rcases Nat.lt_or_ge g w.heap.size with hlt | hge
  · exact hlt
  · rw [Array.getElem?_eq_none hge] at h; cases h
theorem own_below {w w' : World} {base : Nat} {e : TypeId} {size : Nat} {v : Value} {n : Nat} {xs : List Value} (h : w.ownsRow base e size v n xs) (hb : Below w.heap.size w w') : w'.ownsRow base e size v n xs := by
  refine ⟨h.1, ?_⟩
  rcases h.2 with hn | ⟨g, cap, cur, rfl, hg, hgg, rest⟩
  · exact .inl hn
  · exact .inr ⟨g, cap, cur, rfl, hg, (hb.block g (row_lt hgg)).trans hgg, rest⟩
theorem info_u8 : (Try.prog.info? 5).map (fun i => (i.zero, i.size, i.bytes)) = some (some (.int .u8 0), 1, 1) := by kernel_rfl
theorem enc_size_le (r : Nat) : (enc r).size ≤ 4 := encode_size_le _
theorem text_size (l : List Nat) : (text l).size ≤ 4 * l.length := by
  have := runesBytes_size_le (l.map Int.ofNat)
  simpa [text] using this
theorem strCells_append (a b : ByteArray) : Lib.strCells (a ++ b) = Lib.strCells a ++ Lib.strCells b := by
  simp [Lib.strCells, ByteArray.data_append]
/-- Bytes that a call owns, as a string. -/
theorem conv_own {w : World} {base : Nat} {v : Value} {s : ByteArray} (h : w.ownsRow base 5 1 v s.size (Lib.strCells s)) (hv : v ≠ .slice none 0 0) :
    ∃ A c, v = .slice A s.size c ∧ (convert 51 9 (.slice A s.size c)).run Try.prog w = .ok (.string s) w := by
  have h0 := h
  rcases h0.2 with ⟨h1, _⟩ | ⟨g, cap, cur, rfl, _⟩
  · exact absurd h1 hv
  · refine ⟨_, _, rfl, ?_⟩
    have hl : s.data.toList.length = s.size := Array.length_toList
    have hc := run_convert_bytes_back (P := Try.prog) w 51 9 5 ⟨g, 0, none⟩ cap s.data.toList Try.underlying51 Try.underlying5 Try.underlying9 (fun j hj => by
      have h2 := h.cellAt j (by omega)
      have h3 : (⟨g, 0, none⟩ : Addr).add j = ⟨g, j, none⟩ := by simp [Addr.add]; omega
      rw [h3, h2]
      simp only [Lib.strCells, List.getElem?_map, List.getElem?_eq_getElem hj, Option.map_some])
    rw [hl] at hc
    rw [hc]

set_option maxRecDepth 100000 in
set_option maxHeartbeats 1600000 in
theorem ofUnits_any (A : Option Addr) (n c : Nat) (l : List Nat) (B : Nat) (w : World) (h : Reads w B 1 A n (intsOf l)) (hl : l.length = n) (hB : B ≤ w.heap.size) (hs : ∀ r ∈ l, Scal r) (hn : n ≤ 2147483647) :
    Calls Try.prog 11 #[.slice A n c] w fun e w' => e = .returned (.string (text l)) ∧ Below w.heap.size w w' := by
  obtain ⟨i0, hi, hz, hs0, hb⟩ := info_parts info_u8
  have hmade := World.ownsRow_made (e := 5) (size := 1) w #[] 0 (Nat.le_refl _) (by unfold maxLen; omega) (by simp)
  have HM := Lib.hid hmade
  have HH := Lib.hid h
  have HL := Lib.hid hl
  have HS := Lib.hid hs
  clear hmade h hl hs
  go_enter Try.func11, Try.ntmps11
  go_wp2
  go_loopw [3, 4] (fun v t wr => ∃ (k : Nat), k ≤ n ∧ t = .int .i64 k ∧ Below w.heap.size w wr ∧ Hid (wr.ownsRow w.heap.size 5 1 v (text (l.take k)).size (Lib.strCells (text (l.take k))) ∧ v ≠ .slice none 0 0)) (fun _ t _ => n - (intOf t).toNat)
  case atStart => exact ⟨0, Nat.zero_le _, rfl, (Below.refl _ _).alloc (Nat.le_refl _) _, Lib.hid ⟨HM.out, by simp⟩⟩
  case round =>
    obtain ⟨k, hk, rfl, hbel, HO⟩ := hrel
    by_cases hlt : k < n
    · obtain ⟨ad, u, rfl, hbk, hx, hc⟩ := HH.out.at_ hlt
      have hkl : k < l.length := by rw [HL.out]; exact hlt
      obtain rfl : u = .int .i64 (l[k] : Int) := by
        simp only [intsOf, List.getElem?_map, List.getElem?_eq_getElem hkl, Option.map_some, Option.some.injEq] at hx
        exact hx.symm
      have hsc := Lib.hid (HS.out l[k] (List.getElem_mem _))
      have hc2 := (hbel.cell (p := ad.add k) (by rw [block_of_add]; omega)).trans hc
      have e1 : l.take (k + 1) = l.take k ++ [l[k]] := by rw [List.take_add_one, List.getElem?_eq_getElem hkl]; rfl
      have E1 := Lib.hid e1
      have HB := Lib.hid hbel
      have hbs := hbel.size
      generalize hr : l[k] = r at *
      clear hx hc e1 hbel hr
      go_wp2_with fail
      refine (encoded_any r hsc.out _).mono ?_
      rintro e w1 ⟨rfl, hb1⟩
      have hes := enc_size_le r
      have hts : (text (l.take k)).size ≤ 8589934588 := by
        have := text_size (l.take k)
        have h2 : (l.take k).length ≤ k := by simp; omega
        omega
      have HO1 := Lib.hid (own_below HO.out.1 (hb1.mono (Nat.le_refl _)))
      have HV := Lib.hid HO.out.2
      have HB1 := Lib.hid (HB.out.trans (hb1.mono hbs))
      have hbs1 := HB1.out.size
      have T1 := Lib.hid (text_snoc (l.take k) r)
      clear hb1 HO
      generalize enc r = E at *
      go_wp2_with (at_builtin; refine Lib.wpList_append_own_string _ rfl (.tmp 12) (.tmp 17) 51 9 rfl w.heap.size 5 i0 Try.underlying51 Try.underlying9 hi hz hs0 hb _ _ _ rfl HO1.out E rfl (by unfold maxLen; omega) (by omega) hbs1 ?_; intro v2 w2 hown2 hg2 hnil2)
      have hb2 : Below w.heap.size w w2 := HB1.out.grown hg2 hbs1 (fun k hk => (HO1.out.lt k hk).1)
      have hv2 : v2 ≠ .slice none 0 0 := fun h => HV.out (hnil2.1 h).1
      have hown3 : w2.ownsRow w.heap.size 5 1 v2 (text (l.take (k + 1))).size (Lib.strCells (text (l.take (k + 1)))) := by
        rw [E1.out, T1.out, ByteArray.size_append, strCells_append]
        exact hown2
      have HO3 := Lib.hid (And.intro hown3 hv2)
      clear hg2 hnil2 hown2 hown3 hv2
      go_roundw
      case rel => exact ⟨k + 1, by omega, by go_num, hb2, HO3⟩
      case measure => simp [intOf]; omega
    · obtain rfl : k = n := by omega
      have ht : l.take k = l := List.take_of_length_le (by rw [HL.out]; omega)
      have HO' := HO.out
      rw [ht] at HO'
      obtain ⟨A', c', rfl, hcv⟩ := conv_own HO'.1 HO'.2
      have HB := Lib.hid hbel
      clear HO HO' hbel ht
      generalize hT : text l = T at *
      have HT := Lib.hid hT
      clear hT
      go_wp2_with fail
      go_ret
      exact ⟨by rw [HT.out]; rfl, HB.out⟩
end Go.Proofs.Ytijfabahpplimaa
