/-
  strsOf, PartSplitLimit, impl.TextSplitLimit: the parts of a text.
-/
import Derived.Test.YtijfabahpplimaaSplit
namespace Go.Proofs.Ytijfabahpplimaa
open Go.RowKit Ieee

theorem run_isArr (v : Value) (x : TypeId) (w : World) : (Instr.typeAssert (.iface 107 v) x 107 false).run Try.prog w = .ok v w := by
  simp [Instr.typeAssert, run_underlying Try.underlying107]

def StrsPost (l : List ByteArray) (w : World) (e : Ending) (w' : World) : Prop :=
  ∃ v, e = .returned (.tuple #[v, .nilIface]) ∧ w'.ownsRow w.heap.size 9 1 v l.length (strV l) ∧ Below w.heap.size w w'
set_option maxRecDepth 100000 in
set_option maxHeartbeats 1600000 in
theorem strsOf_any (p : Value) (l : List ByteArray) (w : World) (h : ArrS w w.heap.size p l) (hl : l.length ≤ 2001) :
    Calls Try.prog 27 #[p, .nilIface] w fun e w' => StrsPost l w e w' := by
  obtain ⟨g, A, c, ps, rfl, l1, b1, r1, t1⟩ := h
  generalize hn : l.length = n at *
  have x1 : w.cell? ⟨g, 0, none⟩ = some (.slice A n c) := b1.cell 0
  obtain ⟨i0, hi, hz, hs, hb⟩ := info_parts info_str
  have R1 := Lib.hid r1
  have T1 := Lib.hid t1
  have HN := Lib.hid hn
  have ha := run_isArr
  have q1 := run_isString
  have q2 := method_getGoString
  clear r1 t1 hn b1
  go_enter Try.func27, Try.ntmps27
  go_wp2
  go_loopw [6, 18] (fun v t wr => ∃ j : Nat, j ≤ n ∧ t = .int .i64 j ∧ Below w.heap.size w wr ∧ wr.ownsRow w.heap.size 9 1 v j (strV (l.take j))) (fun _ t _ => n - (intOf t).toNat)
  case atStart => exact ⟨0, Nat.zero_le _, rfl, Below.refl _ _, World.ownsRow_nil _ _ _ _⟩
  case round =>
    obtain ⟨j, hj, rfl, hbel, hown⟩ := hrel
    by_cases hlt : j < n
    · obtain ⟨ad, u, rfl, hbk, hpj, hc0⟩ := R1.out.at_ hlt
      have hxj : l[j]? = some (l[j]'(by rw [HN.out]; exact hlt)) := List.getElem?_eq_getElem _
      obtain ⟨gt, v, rfl, lt0, lt1, bt, hg⟩ := T1.out.2 j u _ hpj hxj
      have hg2 := hg.below hbel (Nat.le_refl _)
      obtain ⟨gv, rfl, hcall⟩ := hg2.call hbel.size
      have hc := (hbel.cell (p := ad.add j) (by rw [block_of_add]; omega)).trans hc0
      have k2 : wr.cell? ⟨gt, 2, none⟩ = some (.iface 128 (.pointer (some ⟨gv, 0, none⟩))) := (hbel.cell (p := ⟨gt, 2, none⟩) lt1).trans (bt.cell 2)
      obtain ⟨x, hxx⟩ : ∃ x, x = l[j]'(by rw [HN.out]; exact hlt) := ⟨_, rfl⟩
      rw [← hxx] at hcall
      have HX := Lib.hid hxx
      have HC := Lib.hid hcall
      have HO := Lib.hid hown
      have HBL := Lib.hid hbel
      have hbs := hbel.size
      clear hc0 hpj hxj bt hg hg2 hcall hown hbel hxx
      go_wp2_with (first
        | (go_at_call 91; refine HC.out.mono ?_; rintro e w' ⟨rfl, rfl⟩)
        | (at_builtin; refine wpList_append_x _ rfl (.tmp 22) (.tmp 29) 31 rfl w.heap.size 9 i0 _ 1 16 Try.underlying31 hi hz hs hb rfl (by omega) u6 j _ rfl (HO.out.alloc _) (wr.heap.size + 1) (some ⟨wr.heap.size, 0, none⟩) 1 1 [.string x] rfl (Reads.ofBlock (cs := #[.string x]) (heap_new0 _ _) rfl (by omega)) (by simp [Value.oneCell']) (.inr (by omega)) (by unfold maxLen; omega) (by omega) (by simp; omega) (wr.heap.size + 1) (by simp) ?_; intro g2 cap2 w2 hown2 hgrow2 hat2 hlt2))
      have hb2 : Below w.heap.size w w2 := (HBL.out.alloc hbs _).grown hgrow2 (by simp; omega) (fun k hk => (HO.out.lt k hk).1)
      clear hgrow2 hat2
      go_roundw
      case rel => exact ⟨j + 1, by omega, by go_num, hb2, by
        rw [List.take_succ_eq_append_getElem (by rw [HN.out]; exact hlt), ← HX.out, strV_snoc]; exact hown2⟩
      case measure => simp [intOf]; omega
    · obtain rfl : j = n := by omega
      have htk : l.take j = l := List.take_of_length_le (by rw [HN.out]; omega)
      rw [htk] at hown
      have HO := Lib.hid hown
      have HBL := Lib.hid hbel
      clear hown hbel htk
      go_wp2_with fail
      go_ret2
      exact ⟨_, rfl, by rw [HN.out]; exact HO.out, HBL.out⟩

set_option maxRecDepth 100000 in
set_option maxHeartbeats 1600000 in
theorem partSplit_any (s f : ByteArray) (l : List ByteArray) (w : World) (ts : Txt s) (tf : Txt f) (hs : s.size ≤ 2000) (h0 : 0 < f.size) (hf : f.size ≤ 2000)
    (hl : parts f (s.size + 1) s = l) (hT : ∀ p ∈ l, Txt p) (hn : 0 < l.length ∧ l.length ≤ 2001) :
    Calls Try.prog 18 #[.string s, .string f, .float .f64 13830554455654793216] w fun e w' => StrsPost l w e w' := by
  have TS := Lib.hid ts
  have TF := Lib.hid tf
  have HL := Lib.hid hl
  have HT := Lib.hid hT
  clear ts tf hl hT
  go_enter Try.func18, Try.ntmps18
  go_wp2_with fail
  refine (str_go s TS.out _).mono ?_
  rintro e w1 ⟨v1, rfl, g1, b1⟩
  have B1 := Lib.hid (((Below.refl w.heap.size w).alloc (Nat.le_refl _) _).trans (b1.mono (by simp)))
  have G1 := Lib.hid g1
  clear g1 b1
  go_wp2_with fail
  refine (str_go f TF.out _).mono ?_
  rintro e w2 ⟨v2, rfl, g2, b2⟩
  have B2 := Lib.hid (B1.out.trans (b2.mono B1.out.size))
  have G12 := Lib.hid ((G1.out.below b2 (Nat.le_refl _)).more b2.size)
  have G2 := Lib.hid g2
  clear g2 b2 G1
  go_wp2_with fail
  refine (num_any _ _).mono ?_
  rintro e w' ⟨rfl, rfl⟩
  have b3 : Below w2.heap.size w2 (w2.alloc (.cells #[.float .f64 13830554455654793216] 90)) := (Below.refl _ _).alloc (Nat.le_refl _) _
  have c3 : (w2.alloc (.cells #[.float .f64 13830554455654793216] 90)).cell? ⟨w2.heap.size, 0, none⟩ = some (.float .f64 13830554455654793216) := (Blk.new w2 _ _).cell 0
  have B3 := Lib.hid (B2.out.trans (b3.mono B2.out.size))
  have G13 := Lib.hid ((G12.out.below b3 (Nat.le_refl _)).more b3.size)
  have G23 := Lib.hid ((G2.out.below b3 (Nat.le_refl _)).more b3.size)
  clear b3 G12 G2
  generalize w2.alloc (.cells #[.float .f64 13830554455654793216] 90) = w3 at *
  go_wp2_with fail
  refine (splitLimit_any _ v1 v2 w2.heap.size s f l w3 G13.out G23.out c3 hs h0 hf HL.out HT.out hn).mono ?_
  rintro e w4 ⟨v4, rfl, g4, b4⟩
  have B4 := Lib.hid (B3.out.trans (b4.mono B3.out.size))
  have G4 := Lib.hid g4
  clear g4 b4
  go_wp2_with fail
  refine (strsOf_any v4 l _ G4.out hn.2).mono ?_
  rintro e w5 ⟨v5, rfl, g5, b5⟩
  have B5 := Lib.hid (B4.out.trans (b5.mono B4.out.size))
  have hs4 := B4.out.size
  have G5 := Lib.hid g5
  clear g5 b5
  go_wp2_with fail
  go_ret2
  refine ⟨v5, rfl, ?_, B5.out⟩
  refine ⟨G5.out.1, ?_⟩
  rcases G5.out.2 with h2 | ⟨g, cap, cur, h3, h4, h5⟩
  · exact .inl h2
  · exact .inr ⟨g, cap, cur, h3, Nat.le_trans hs4 h4, h5⟩

theorem texts_any (v : Value) (w : World) : Calls Try.prog 17 #[v, .nilIface] w fun e w' => e = .returned (.tuple #[v, .bool true]) ∧ w = w' := by
  go_enter Try.func17, Try.ntmps17
  go_wp2
  go_ret2
  exact ⟨rfl, rfl⟩
def TextsPost (l : List ByteArray) (w : World) (e : Ending) (w' : World) : Prop :=
  ∃ v, e = .returned (.tuple #[v, .bool true]) ∧ w'.ownsRow w.heap.size 9 1 v l.length (strV l) ∧ Below w.heap.size w w'
theorem textSplit_any (s f : ByteArray) (l : List ByteArray) (w : World) (ts : Txt s) (tf : Txt f) (hs : s.size ≤ 2000) (h0 : 0 < f.size) (hf : f.size ≤ 2000)
    (hl : parts f (s.size + 1) s = l) (hT : ∀ p ∈ l, Txt p) (hn : 0 < l.length ∧ l.length ≤ 2001) :
    Calls Try.prog 9 #[.string s, .string f, .float .f64 13830554455654793216] w fun e w' => TextsPost l w e w' := by
  have K := Lib.hid (fun w => partSplit_any s f l w ts tf hs h0 hf hl hT hn)
  clear ts tf hs h0 hf hl hT hn
  go_enter Try.func9, Try.ntmps9
  go_wp2_with fail
  refine (K.out _).mono ?_
  rintro e w1 ⟨v, rfl, ho, hb⟩
  have B1 := Lib.hid hb
  have HO := Lib.hid ho
  clear hb ho
  go_wp2_with (go_at_call 17; refine (texts_any _ _).mono ?_; rintro e w' ⟨rfl, rfl⟩)
  go_ret2
  exact ⟨v, rfl, HO.out, B1.out⟩
end Go.Proofs.Ytijfabahpplimaa
