/-
  spec.Unescape: it makes of a text with escapes what runS says.
-/
import Derived.Test.YtpgmnggicmbacaaGreatDoorEsEnc
import Derived.Lib.AppendStr
import Derived.Lib.UnsafeStr
import Derived.Laws.OwnMore
namespace Go.Proofs.YtpgmnggicmbacaaGreatDoor
open Go.RowKit

theorem row_lt {w : World} {g : Nat} {o : Obj} (h : w.heap[g]? = some o) : g < w.heap.size := by
  rcases Nat.lt_or_ge g w.heap.size with hlt | hge
  · exact hlt
  · rw [Array.getElem?_eq_none hge] at h; cases h
theorem own_below {w w' : World} {base : Nat} {e : TypeId} {size : Nat} {v : Value} {n : Nat} {xs : List Value} (h : w.ownsRow base e size v n xs) (hb : Below w.heap.size w w') : w'.ownsRow base e size v n xs := by
  refine ⟨h.1, ?_⟩
  rcases h.2 with hn | ⟨g, cap, cur, rfl, hg, hgg, rest⟩
  · exact .inl hn
  · exact .inr ⟨g, cap, cur, rfl, hg, (hb.block g (row_lt hgg)).trans hgg, rest⟩
theorem info_u8 : (Tryz.prog.info? 5).map (fun i => (i.zero, i.size, i.bytes)) = some (some (.int .u8 0), 1, 1) := by kernel_rfl
theorem strCells_append (a b : ByteArray) : Lib.strCells (a ++ b) = Lib.strCells a ++ Lib.strCells b := by
  simp [Lib.strCells, ByteArray.data_append]
/-- Bytes that a call owns, as a string. -/
theorem conv_own {w : World} {base : Nat} {v : Value} {s : ByteArray} (h : w.ownsRow base 5 1 v s.size (Lib.strCells s)) (hv : v ≠ .slice none 0 0) :
    ∃ A c, v = .slice A s.size c ∧ (convert 31 9 (.slice A s.size c)).run Tryz.prog w = .ok (.string s) w := by
  have h0 := h
  rcases h0.2 with ⟨h1, _⟩ | ⟨g, cap, cur, rfl, _⟩
  · exact absurd h1 hv
  · refine ⟨_, _, rfl, ?_⟩
    have hl : s.data.toList.length = s.size := Array.length_toList
    have hc := run_convert_bytes_back (P := Tryz.prog) w 31 9 5 ⟨g, 0, none⟩ cap s.data.toList Tryz.underlying31 Tryz.underlying5 Tryz.underlying9 (fun j hj => by
      have h2 := h.cellAt j (by omega)
      have h3 : (⟨g, 0, none⟩ : Addr).add j = ⟨g, j, none⟩ := by simp [Addr.add]; omega
      rw [h3, h2]
      simp only [Lib.strCells, List.getElem?_map, List.getElem?_eq_getElem hj, Option.map_some])
    rw [hl] at hc
    rw [hc]


theorem heap_new1 (w : World) (o : Obj) : (w.alloc o).heap[w.heap.size]? = some o := heap_alloc_new w o
theorem Reads.ofCells {w : World} {B size n g : Nat} {cs : Array Value} {t : TypeId} {fr : Nat × Nat} (h : w.heap[g]? = some (.cells cs t fr)) (hs : cs.size = n * size) (hg : g < B) : Reads w B size (some ⟨g, 0, none⟩) n cs.toList :=
  ⟨by simpa using hs, fun _ => ⟨_, rfl, hg, World.news_of_block h⟩⟩
/-- Bytes in a row that the call owns. -/
def Byts (w : World) (B : Nat) (v : Value) (l : List UInt8) : Prop := w.ownsRow B 5 1 v l.length (Lib.byteCells l) ∧ v ≠ .slice none 0 0
theorem str_cells (l : List UInt8) : Lib.strCells ⟨l.toArray⟩ = Lib.byteCells l := by simp [Lib.strCells, Lib.byteCells]
theorem str_size (l : List UInt8) : (⟨l.toArray⟩ : ByteArray).size = l.length := by
  show l.toArray.size = _
  simp
theorem Byts.grow {w : World} {B : Nat} {v : Value} {l m : List UInt8} (h : w.ownsRow B 5 1 v (l.length + m.length) (Lib.byteCells l ++ Lib.byteCells m)) (hv : v ≠ .slice none 0 0) : Byts w B v (l ++ m) := by
  refine ⟨?_, hv⟩
  rw [List.length_append, Lib.byteCells_append]
  exact h
theorem Byts.below {w w' : World} {B : Nat} {v : Value} {l : List UInt8} (h : Byts w B v l) (hb : Below w.heap.size w w') : Byts w' B v l := ⟨own_below h.1 hb, h.2⟩
theorem Byts.conv {w : World} {B : Nat} {v : Value} {l : List UInt8} (h : Byts w B v l) : ∃ A c, v = .slice A l.length c ∧ (convert 31 9 (.slice A l.length c)).run Tryz.prog w = .ok (.string ⟨l.toArray⟩) w := by
  have h1 := conv_own (s := ⟨l.toArray⟩) (w := w) (base := B) (v := v) (by rw [str_size, str_cells]; exact h.1) h.2
  rw [str_size] at h1
  exact h1
/-- What Unescape answers. -/
def SuPost (s : ByteArray) (w : World) (e : Ending) (w' : World) : Prop :=
  (match runS s s.size 0 [] true with
    | (none, sure) => e = .returned (.tuple #[.string ⟨#[]⟩, .bool false, .bool sure])
    | (some l, sure) => e = .returned (.tuple #[.string ⟨l.toArray⟩, .bool true, .bool sure])) ∧ Below w.heap.size w w'
/-- What stands at the head of a round. -/
def SuI (s : ByteArray) (w wr : World) (fuel i : Nat) (v : Value) (l : List UInt8) (sure : Bool) : Prop :=
  runS s fuel i l sure = runS s s.size 0 [] true ∧ Byts wr w.heap.size v l ∧ Below w.heap.size w wr

set_option maxRecDepth 100000 in
set_option maxHeartbeats 3200000 in
theorem spec_Unescape_any (s : ByteArray) (hs : s.size ≤ 100000000) (w : World) :
    Calls Tryz.prog 5 #[.string s] w (SuPost s w) := by
  obtain ⟨i0, hi, hz, hs0, hb⟩ := info_parts info_u8
  have hmade := World.ownsRow_made (e := 5) (size := 1) w #[] 0 (Nat.le_refl _) (by unfold maxLen; omega) (by simp)
  have HM := Lib.hid hmade
  clear hmade
  go_enter Tryz.func5, Tryz.ntmps5
  go_wp2_with fail
  go_loopw [4, 5, 6] (fun q v t wr => ∃ (i fuel : Nat) (l : List UInt8) (sure : Bool), q = .bool sure ∧ t = .int .i64 i ∧ Hid (SuI s w wr fuel i v l sure) ∧ s.size ≤ i + fuel ∧ i ≤ s.size + 12 ∧ l.length ≤ 4 * i) (fun _ _ t _ => s.size - (intOf t).toNat)
  case atStart => exact ⟨0, s.size, [], true, rfl, rfl, Lib.hid ⟨rfl, ⟨HM.out, by simp⟩, (Below.refl _ _).alloc (Nat.le_refl _) _⟩, by omega, by omega, by simp⟩
  case round =>
    obtain ⟨i, fuel, l, sure, rfl, rfl, HI, h1, h2, h3⟩ := hrel
    clear HM
    by_cases hlt : i < s.size
    · obtain ⟨f, rfl⟩ : ∃ f, fuel = f + 1 := ⟨fuel - 1, by omega⟩
      have hd := by_eq hlt
      have hbs : w.heap.size ≤ wr.heap.size := HI.out.2.2.size
      have HR := Lib.hid HI.out.1
      have HV := Lib.hid HI.out.2.1
      have HB := Lib.hid HI.out.2.2
      clear HI
      by_cases c1 : by_ s i = 92
      · have q1 : (((s[i]'hlt).toNat : Int) == 92) = true := by rw [hd]; simp; omega
        have q1' : (((s[i]'hlt).toNat : Int) != 92) = false := by rw [hd]; simp; omega
        have HC1 := Lib.hid c1
        clear hd c1
        by_cases c2 : s.size ≤ i + 1
        · have HE := Lib.hid (show runS s s.size 0 [] true = (none, sure) by
            rw [← HR.out, runS, if_pos hlt]
            unfold stepS
            rw [if_pos HC1.out, if_pos c2])
          go_wp2_with fail
          go_ret3
          exact ⟨by rw [HE.out]; rfl, HB.out⟩
        have hlt2 : i + 1 < s.size := by omega
        have hd2 := by_eq hlt2
        by_cases c3 : by_ s (i + 1) = 117
        · have q3 : (((s[i + 1]'hlt2).toNat : Int) == 117) = true := by rw [hd2]; simp; omega
          clear hd2
          cases hu : uniF s (i + 2) with
          | none =>
            have HE := Lib.hid (show runS s s.size 0 [] true = (none, sure) by
              rw [← HR.out, runS, if_pos hlt]
              unfold stepS
              rw [if_pos HC1.out, if_neg c2, if_pos c3, hu])
            have HU := Lib.hid hu
            clear hu c3
            go_wp2_with fail
            refine (unicode_any s (i + 2) (by omega) (by omega) _).mono ?_
            rintro e2 w2 ⟨⟨n, m, rfl, hn⟩, rfl⟩
            rw [HU.out] at hn
            have hn0 : n < 0 := hn
            clear hn
            go_wp2_with fail
            go_ret3
            exact ⟨by rw [HE.out]; rfl, HB.out⟩
          | some nm =>
            obtain ⟨a, b⟩ := nm
            have HE := Lib.hid (show runS s f (i + 2 + b) (l ++ encB a) (sure && (decide (a < 55296) || decide (57344 ≤ a))) = runS s s.size 0 [] true by
              rw [← HR.out]
              conv => rhs; rw [runS, if_pos hlt]
              unfold stepS
              rw [if_pos HC1.out, if_neg c2, if_pos c3, hu])
            obtain ⟨hal, hbm⟩ := uniF_lt hu
            have HU := Lib.hid hu
            have hel := encB_le a
            clear hu c3
            go_wp2_with fail
            refine (unicode_any s (i + 2) (by omega) (by omega) _).mono ?_
            rintro e2 w2 ⟨⟨n, m, rfl, hn⟩, rfl⟩
            rw [HU.out] at hn
            obtain ⟨rfl, rfl⟩ : n = (a : Int) ∧ m = (b : Int) := hn
            (try clear hn)
            have p1 : (decide ((a : Int) < 55296)) = decide (a < 55296) := by simp; omega
            have p2 : (decide ((a : Int) ≥ 57344)) = decide (57344 ≤ a) := by simp; omega
            generalize hx1 : decide (a < 55296) = x1 at *
            generalize hx2 : decide (57344 ≤ a) = x2 at *
            have hno : (x1 && x2) = false := by
              rw [← hx1, ← hx2]
              simp
              omega
            have HX1 := Lib.hid hno
            clear hx1 hx2 hno
            obtain ⟨qq, hqq⟩ : ∃ qq, qq = (sure && (x1 || x2)) := ⟨_, rfl⟩
            rw [← hqq] at HE
            generalize hE : encB a = E at *
            have HEE := Lib.hid hE
            have HQ := Lib.hid hqq
            clear hE hqq
            cases sure <;> cases x1 <;> cases x2
            all_goals first
              | (exfalso
                 have hno := HX1.out
                 cases hno
                 done)
              | skip
            all_goals clear HX1
            all_goals
              have hqq := HQ.out
              first
                | (obtain rfl : qq = true := hqq)
                | (obtain rfl : qq = false := hqq)
              have q0 : decide ((a : Int) < 0) = false := by simp
              go_wp2_with fail
              clear q0 p1 p2
              refine (encoded_any a hal _).mono ?_
              rintro e3 w3 ⟨rfl, hb3⟩
              rw [HEE.out]
              have HV3 := Lib.hid (HV.out.below hb3)
              have HB3 := Lib.hid (HB.out.trans (hb3.mono hbs))
              have hbs3 := HB3.out.size
              have HW3 := Lib.hid (show w3.ownsRow w.heap.size 5 1 u5 l.length (Lib.byteCells l) from HV3.out.1)
              clear hb3
              have hEs : (⟨E.toArray⟩ : ByteArray).size = E.length := str_size E
              have HES := Lib.hid hEs
              clear hEs
              go_wp2_with (at_builtin; refine Lib.wpList_append_own_string _ rfl (.tmp 61) (.tmp 63) 31 9 rfl w.heap.size 5 i0 Tryz.underlying31 Tryz.underlying9 hi hz hs0 hb _ _ _ rfl HW3.out ⟨E.toArray⟩ rfl (by rw [HES.out]; unfold maxLen; omega) (by rw [HES.out]; omega) hbs3 ?_; intro v2 w2 hown2 hg2 hnil2)
              have hb2 : Below w.heap.size w w2 := HB3.out.grown hg2 hbs3 (fun k hk => (HW3.out.lt k hk).1)
              have hv2 : v2 ≠ .slice none 0 0 := fun h => HV3.out.2 (hnil2.1 h).1
              have HV4 := Lib.hid (Byts.grow (w := w2) (B := w.heap.size) (l := l) (m := E) (by rw [str_cells, str_size] at hown2; exact hown2) hv2)
              have HB4 := Lib.hid hb2
              clear hg2 hnil2 hown2 hv2 hb2
              go_roundw
              case rel => exact ⟨i + 2 + b, f, l ++ E, _, rfl, by go_num, Lib.hid ⟨HE.out, HV4.out, HB4.out⟩, by omega, by omega, by rw [List.length_append]; omega⟩
              case measure => simp [intOf]; omega
        · have q3 : (((s[i + 1]'hlt2).toNat : Int) == 117) = false := by rw [hd2]; simp; omega
          have hr0 := runS s (f + 1) i l sure
          have HG := Lib.hid (show runS s s.size 0 [] true = (match escS (by_ s (i + 1)) with | none => (none, sure) | some c => runS s f (i + 2) (l ++ [UInt8.ofNat c]) (sure && true)) by
            rw [← HR.out, runS, if_pos hlt]
            unfold stepS
            rw [if_pos HC1.out, if_neg c2, if_neg c3]
            cases escS (by_ s (i + 1)) <;> rfl)
          rw [← hd2] at HG
          clear c3 hr0 hd2
          go_wp2_with fail
          refine (escape_any _ _).mono ?_
          rintro e2 w2 ⟨⟨n, bb, rfl, hn⟩, rfl⟩
          cases he : escS (s[i + 1]'hlt2).toNat with
          | none =>
            rw [he] at hn
            obtain rfl : bb = false := hn
            have HE := Lib.hid (show runS s s.size 0 [] true = (none, sure) by rw [HG.out, he])
            (try clear hn)
            clear he
            go_wp2_with fail
            go_ret3
            exact ⟨by rw [HE.out]; rfl, HB.out⟩
          | some c =>
            rw [he] at hn
            obtain ⟨rfl, rfl⟩ : bb = true ∧ n = c := hn
            have HE := Lib.hid (show runS s f (i + 2) (l ++ [UInt8.ofNat n]) sure = runS s s.size 0 [] true by rw [HG.out, he, Bool.and_true])
            have hn256 : n < 256 := by
              have := by_lt s (i + 1)
              unfold escS at he
              rw [by_eq hlt2] at he
              repeat' split at he
              all_goals first | (injection he with he; omega) | (cases he)
            (try clear hn)
            clear he
            go_wp2_with (at_builtin; refine wpList_append_x _ rfl (.tmp 78) (.tmp 80) 31 rfl w.heap.size 5 i0 _ 1 1 Tryz.underlying31 hi hz hs0 hb rfl (by omega) u5 l.length _ rfl (HV.out.1.alloc _) (wr.heap.size + 1) (some ⟨wr.heap.size, 0, none⟩) 1 1 [.int .u8 n] rfl (Reads.ofCells (cs := #[.int .u8 n]) (heap_new1 _ _) rfl (by omega)) (by simp [Value.oneCell']) (.inr (by omega)) (by unfold maxLen; omega) (by omega) (by simp; omega) (wr.heap.size + 1) (by simp) ?_; intro g2 cap2 w2 hown2 hgrow2 hat2 hlt2)
            have hb2 : Below w.heap.size w w2 := (HB.out.alloc hbs _).grown hgrow2 (by simp; omega) (fun k hk => (HV.out.1.lt k hk).1)
            have HV4 := Lib.hid (Byts.grow (m := [UInt8.ofNat n]) (w := w2) (B := w.heap.size) (l := l) (by simp only [Lib.byteCells, List.map_cons, List.map_nil, List.length_cons, List.length_nil]; rw [u8_int hn256]; exact hown2) (by simp))
            have HB4 := Lib.hid hb2
            clear hgrow2 hown2 hb2 hat2
            go_roundw
            case rel => exact ⟨i + 2, f, l ++ [UInt8.ofNat n], sure, rfl, by go_num, Lib.hid ⟨HE.out, HV4.out, HB4.out⟩, by omega, by omega, by rw [List.length_append]; simp; omega⟩
            case measure => simp [intOf]; omega
      · have HS := Lib.hid (show runS s f (i + 1) (l ++ [UInt8.ofNat (by_ s i)]) sure = runS s s.size 0 [] true by
          rw [← HR.out]
          conv => rhs; rw [runS, if_pos hlt]
          unfold stepS
          rw [if_neg c1]
          simp only [Bool.and_true])
        have q1 : (((s[i]'hlt).toNat : Int) == 92) = false := by rw [hd]; simp; omega
        have q1' : (((s[i]'hlt).toNat : Int) != 92) = true := by rw [hd]; simp; omega
        have HD := Lib.hid hd
        clear hd
        go_wp2_with (at_builtin; refine wpList_append_x _ rfl (.tmp 22) (.tmp 26) 31 rfl w.heap.size 5 i0 _ 1 1 Tryz.underlying31 hi hz hs0 hb rfl (by omega) u5 l.length _ rfl (HV.out.1.alloc _) (wr.heap.size + 1) (some ⟨wr.heap.size, 0, none⟩) 1 1 [.int .u8 (s[i]'hlt).toNat] rfl (Reads.ofCells (cs := #[.int .u8 (s[i]'hlt).toNat]) (heap_new1 _ _) rfl (by omega)) (by simp [Value.oneCell']) (.inr (by omega)) (by unfold maxLen; omega) (by omega) (by simp; omega) (wr.heap.size + 1) (by simp) ?_; intro g2 cap2 w2 hown2 hgrow2 hat2 hlt2)
        have hb2 : Below w.heap.size w w2 := (HB.out.alloc hbs _).grown hgrow2 (by simp; omega) (fun k hk => (HV.out.1.lt k hk).1)
        have HV4 := Lib.hid (Byts.grow (m := [UInt8.ofNat (by_ s i)]) (w := w2) (B := w.heap.size) (l := l) (by simp only [Lib.byteCells, List.map_cons, List.map_nil, List.length_cons, List.length_nil]; rw [u8_int (by_lt s i), ← HD.out]; exact hown2) (by simp))
        have HB4 := Lib.hid hb2
        clear hgrow2 hown2 hb2 hat2
        go_roundw
        case rel => exact ⟨i + 1, f, _, sure, rfl, by go_num, Lib.hid ⟨HS.out, HV4.out, HB4.out⟩, by omega, by omega, by rw [List.length_append]; simp; omega⟩
        case measure => simp [intOf]; omega
    · have HE := Lib.hid (show runS s s.size 0 [] true = (some l, sure) by
        rw [← HI.out.1]
        cases fuel with
        | zero => rfl
        | succ f => rw [runS, if_neg hlt])
      obtain ⟨A, c, rfl, hcv⟩ := HI.out.2.1.conv
      have HB := Lib.hid HI.out.2.2
      clear HI
      go_wp2_with fail
      go_ret3
      exact ⟨by rw [HE.out]; rfl, HB.out⟩
end Go.Proofs.YtpgmnggicmbacaaGreatDoor
