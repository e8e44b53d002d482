/-
  Arrays of numbers, as the doors make them: nums, makeValueArray, concatArrays, numsOf.
-/
import Derived.Test.YthinfliplpjdjaaNumVal
import Derived.Laws.CopyOwn
import Derived.Laws.MakeOwn
namespace Go.Proofs.Ythinfliplpjdjaa
open Go.RowKit Ieee

/-- A slice of floats that is read. -/
def Flts (w : World) (B : Nat) (A : Option Addr) (n : Nat) (xs : List Nat) : Prop := Reads w B 1 A n (xs.map (Value.float .f64))
theorem Flts.at_ {w : World} {B : Nat} {A : Option Addr} {n : Nat} {xs : List Nat} (h : Flts w B A n xs) {k : Nat} (hk : k < n) :
    ∃ ad, A = some ad ∧ ad.block < B ∧ w.cell? (ad.add k) = some (.float .f64 (xs.getD k 0)) := by
  obtain ⟨ad, u, hA, hb, hx, hc⟩ := Reads.at_ h hk
  refine ⟨ad, hA, hb, ?_⟩
  rw [hc]
  simp only [List.getElem?_map, Option.map_eq_some_iff] at hx
  obtain ⟨s, hs, rfl⟩ := hx
  simp [hs]
theorem Flts.len {w : World} {B : Nat} {A : Option Addr} {n : Nat} {xs : List Nat} (h : Flts w B A n xs) : xs.length = n := by
  simpa using h.1

/-- A thunk that holds a number. -/
def ThOk (w : World) (B : Nat) (p : Value) (x : Nat) : Prop :=
  ∃ g n, p = .pointer (some ⟨g, 0, none⟩) ∧ g < B ∧ n < B ∧ Blk w g 153 #[.pointer none, .nilIface, .iface 148 (.pointer (some ⟨n, 0, none⟩)), .nilIface] ∧ Blk w n 147 #[.float .f64 x]
theorem ThOk.below {w w' : World} {B C : Nat} {p : Value} {x : Nat} (h : ThOk w B p x) (hb : Below C w w') (hC : B ≤ C) : ThOk w' B p x := by
  obtain ⟨g, n, h1, h2, h3, h4, h5⟩ := h
  exact ⟨g, n, h1, h2, h3, h4.below hb (by omega), h5.below hb (by omega)⟩
theorem ThOk.more {w : World} {B C : Nat} {p : Value} {x : Nat} (h : ThOk w B p x) (hC : B ≤ C) : ThOk w C p x := by
  obtain ⟨g, n, h1, h2, h3, h4, h5⟩ := h
  exact ⟨g, n, h1, by omega, by omega, h4, h5⟩
theorem ThOk.grown {w w' : World} {B : Nat} {p : Value} {x : Nat} {base e size k : Nat} {v : Value} {cs : List Value} (h : ThOk w B p x) (hb : w.grownBy w' v.ownBlock) (hv : w.ownsRow base e size v k cs) (he1 : e ≠ 153) (he2 : e ≠ 147) : ThOk w' B p x := by
  obtain ⟨g, n, h1, h2, h3, h4, h5⟩ := h
  exact ⟨g, n, h1, h2, h3, h4.grown hb (fun e0 => own_blk_ne hv h4 he1 e0.symm), h5.grown hb (fun e0 => own_blk_ne hv h5 he2 e0.symm)⟩

def Ths (w : World) (B : Nat) (ps : List Value) (xs : List Nat) : Prop := ps.length = xs.length ∧ ∀ (i : Nat) (p : Value) (x : Nat), ps[i]? = some p → xs[i]? = some x → ThOk w B p x
theorem Ths.nil (w : World) (B : Nat) : Ths w B [] [] := ⟨rfl, fun i p x h => by simp at h⟩
theorem Ths.below {w w' : World} {B C : Nat} {ps : List Value} {xs : List Nat} (h : Ths w B ps xs) (hb : Below C w w') (hC : B ≤ C) : Ths w' B ps xs := ⟨h.1, fun i p x a b => (h.2 i p x a b).below hb hC⟩
theorem Ths.more {w : World} {B C : Nat} {ps : List Value} {xs : List Nat} (h : Ths w B ps xs) (hC : B ≤ C) : Ths w C ps xs := ⟨h.1, fun i p x a b => (h.2 i p x a b).more hC⟩
theorem Ths.grown {w w' : World} {B : Nat} {ps : List Value} {xs : List Nat} {base e size k : Nat} {v : Value} {cs : List Value} (h : Ths w B ps xs) (hb : w.grownBy w' v.ownBlock) (hv : w.ownsRow base e size v k cs) (he1 : e ≠ 153) (he2 : e ≠ 147) : Ths w' B ps xs :=
  ⟨h.1, fun i p x a b => (h.2 i p x a b).grown hb hv he1 he2⟩
theorem Ths.append {w : World} {B : Nat} {ps qs : List Value} {xs ys : List Nat} (h : Ths w B ps xs) (k : Ths w B qs ys) : Ths w B (ps ++ qs) (xs ++ ys) := by
  refine ⟨by simp [h.1, k.1], fun i p x a b => ?_⟩
  rcases Nat.lt_or_ge i ps.length with hi | hi
  · rw [List.getElem?_append_left hi] at a
    rw [List.getElem?_append_left (by rw [← h.1]; exact hi)] at b
    exact h.2 i p x a b
  · rw [List.getElem?_append_right hi] at a
    rw [List.getElem?_append_right (by rw [← h.1]; exact hi)] at b
    rw [← h.1] at b
    exact k.2 _ p x a b
theorem Ths.one {w : World} {B : Nat} {p : Value} {x : Nat} (h : ThOk w B p x) : Ths w B [p] [x] := by
  refine ⟨rfl, fun i q y a b => ?_⟩
  rcases i with _ | i
  · simp at a b; subst a b; exact h
  · simp at a

/-- An array of numbers. -/
def Arr (w : World) (B : Nat) (v : Value) (xs : List Nat) : Prop :=
  ∃ g A c ps, v = .pointer (some ⟨g, 0, none⟩) ∧ g < B ∧ Blk w g 144 #[.slice A xs.length c] ∧ Reads w B 1 A xs.length ps ∧ Ths w B ps xs
theorem Arr.below {w w' : World} {B C : Nat} {v : Value} {xs : List Nat} (h : Arr w B v xs) (hb : Below C w w') (hC : B ≤ C) : Arr w' B v xs := by
  obtain ⟨g, A, c, ps, h1, h2, h3, h4, h5⟩ := h
  exact ⟨g, A, c, ps, h1, h2, h3.below hb (by omega), h4.below (hb.mono hC), h5.below hb hC⟩
theorem Arr.more {w : World} {B C : Nat} {v : Value} {xs : List Nat} (h : Arr w B v xs) (hC : B ≤ C) : Arr w C v xs := by
  obtain ⟨g, A, c, ps, h1, h2, h3, h4, h5⟩ := h
  exact ⟨g, A, c, ps, h1, by omega, h3, h4.more hC, h5.more hC⟩

theorem info_thp : (Try.prog.info? 145).map (fun i => (i.zero, i.size, i.bytes)) = some (some (.pointer none), 1, 8) := by kernel_rfl
theorem info_flt : (Try.prog.info? 50).map (fun i => (i.zero, i.size, i.bytes)) = some (some (.float .f64 0), 1, 8) := by kernel_rfl

theorem own_one {base e n : Nat} {v : Value} {w : World} {cs : List Value} (h : w.ownsRow base e 1 v n cs) : cs.length = n := by have := h.1; simpa using this

theorem Reads.ofBlock {w : World} {B size n g : Nat} {cs : Array Value} {t : TypeId} {fr : Nat × Nat} (h : w.heap[g]? = some (.cells cs t fr)) (hs : cs.size = n * size) (hg : g < B) : Reads w B size (some ⟨g, 0, none⟩) n cs.toList :=
  ⟨by simpa using hs, fun _ => ⟨_, rfl, hg, World.news_of_block h⟩⟩
def MkPost (n : Nat) (ps : List Value) (w : World) (e : Ending) (w' : World) : Prop :=
  (∃ g A c, e = .returned (.pointer (some ⟨g, 0, none⟩)) ∧ g < w'.heap.size ∧ Blk w' g 144 #[.slice A n c] ∧ Reads w' w'.heap.size 1 A n ps) ∧ Below w.heap.size w w'
set_option maxRecDepth 100000 in
set_option maxHeartbeats 1600000 in
theorem mkArr_any (v : Value) (n : Nat) (ps : List Value) (base : Nat) (w : World) (hv : w.ownsRow base 145 1 v n ps) (hn : n ≤ 100000) (hone : ∀ u ∈ ps, u.oneCell' = true) :
    Calls Try.prog 66 #[v] w fun e w' => MkPost n ps w e w' := by
  obtain ⟨A, c, rfl⟩ : ∃ A c, v = .slice A n c := by
    rcases hv.2 with ⟨rfl, rfl⟩ | ⟨g, cap, cur, rfl, _⟩
    · have := own_one hv
      simp at this
      subst this
      exact ⟨none, 0, rfl⟩
    · exact ⟨_, _, rfl⟩
  by_cases hc : n = c
  · subst hc
    have HV := Lib.hid hv
    clear hv
    go_enter Try.func66, Try.ntmps66
    go_wp2
    go_ret
    refine ⟨⟨_, A, n, rfl, by simp, Blk.new w _ _, ?_⟩, (Below.refl _ _).alloc (Nat.le_refl _) _⟩
    exact Reads.more (Reads.of_own (HV.out.alloc _)) (Nat.le_refl _)
  · obtain ⟨i0, hi, hz, hs, hb⟩ := info_parts info_thp
    have hmk : ∀ w : World, (Instr.makeSlice 123 (.int .i64 (n : Int)) (.int .i64 (n : Int))).run Try.prog w = .ok (.slice (some ⟨w.heap.size, 0, none⟩) n n) (w.alloc (.cells (madeCells (Value.pointer none).cells (n * i0.size)) 145)) := fun w => by
      have := run_make (P := Try.prog) w 123 145 i0 _ Try.underlying123 hi hz .i64 .i64 n n (by omega) (Int.le_refl _) (by rw [hb]; omega) (by omega)
      simpa using this
    obtain ⟨cur, hcur⟩ : ∃ cur : List Value, madeCells (Value.pointer none).cells (n * i0.size) = cur.toArray := ⟨_, (Array.toArray_toList (xs := madeCells (Value.pointer none).cells (n * i0.size))).symm⟩
    have hcl : cur.length = n := by
      have := congrArg Array.size hcur
      simp [madeCells, hs] at this
      omega
    simp only [hcur] at hmk
    have HV := Lib.hid hv
    have HCL := Lib.hid hcl
    have hA : 0 < n → ∃ ad, A = some ad ∧ ∀ (j : Nat) (u : Value), ps[j]? = some u → w.cell? (ad.add j) = some u := by
      intro h0
      obtain ⟨ad, e, -, hc⟩ := (Reads.of_own hv).2 h0
      exact ⟨ad, e, hc⟩
    have HA := Lib.hid hA
    have hS : 0 < ps.length → (some (⟨w.heap.size, 0, none⟩ : Addr) = some ⟨w.heap.size, 0, none⟩) ∧ ∃ ad, A = some ad ∧ ∀ (j : Nat) (u : Value), ps[j]? = some u → (w.alloc (.cells cur.toArray 145)).cell? (ad.add j) = some u := by
      intro h0
      obtain ⟨ad, e, hcc⟩ := hA (by rw [own_one hv] at h0; exact h0)
      refine ⟨rfl, ad, e, fun j u hu => ?_⟩
      have h1 := hcc j u hu
      exact (World.cell?_alloc_lt w _ _ (World.block_lt_of_cell? w _ h1)).trans h1
    have HS := Lib.hid hS
    have HO := Lib.hid hone
    have hlen : ps.length = Nat.min n n := by rw [own_one hv]; exact (Nat.min_self n).symm
    have HLN := Lib.hid hlen
    have hfit : 0 + ps.length ≤ cur.length := by rw [own_one hv, hcl]; omega
    clear hv hcl hcur hA hi hz hs hb hS hone hlen
    have hcb : ((n : Int) == (c : Int)) = false := by simp; omega
    go_enter Try.func66, Try.ntmps66
    go_wp2_with (with_reducible refine wpList_copy_splice rfl (.tmp 13) (.tmp 14) 123 123 rfl 145 Try.underlying123 (by kernel_rfl) (some ⟨w.heap.size, 0, none⟩) A n n n c rfl rfl w.heap.size 0 cur 145 (heap_alloc_new w _) ps HLN.out HS.out hfit HO.out w.heap.size w ((Below.refl _ _).alloc (Nat.le_refl _) _) (Nat.le_refl _) ?_; rintro w2 hw2 hbw2)
    have hspl : splice cur 0 ps = ps := by
      simp [splice]
      rw [own_one HV.out, HCL.out]
      exact Nat.le_refl _
    rw [hspl] at hw2
    have H2 := hw2.out
    have l2 : w.heap.size < w2.heap.size := Blk.lt H2
    have HSP := Lib.hid H2
    clear H2 hspl
    go_ret
    refine ⟨⟨_, some ⟨w.heap.size, 0, none⟩, n, rfl, by simp, Blk.new w2 _ _, ?_⟩, hbw2.alloc hbw2.size _⟩
    have h3 := Blk.alloc HSP.out (.cells #[.slice (some ⟨w.heap.size, 0, none⟩) n n] 144)
    have := Reads.ofBlock (B := (w2.alloc (.cells #[.slice (some ⟨w.heap.size, 0, none⟩) n n] 144)).heap.size) (size := 1) (n := n) h3 (by simp [own_one HV.out]) (by simp; omega)
    simpa using this

theorem ths_one {w : World} {B : Nat} {ps : List Value} {xs : List Nat} (h : Ths w B ps xs) : ∀ u ∈ ps, u.oneCell' = true := by
  intro u hu
  obtain ⟨i, hi, rfl⟩ := List.getElem_of_mem hu
  obtain ⟨g, n, e, -⟩ := h.2 i ps[i] (xs[i]'(by rw [← h.1]; exact hi)) (List.getElem?_eq_getElem hi) (List.getElem?_eq_getElem _)
  rw [e]; rfl

theorem heap_new2 (w : World) (a b o : Obj) : (((w.alloc a).alloc b).alloc o).heap[w.heap.size + 2]? = some o := by
  have := heap_alloc_new ((w.alloc a).alloc b) o
  simpa using this
def NumsPost (xs : List Nat) (w : World) (e : Ending) (w' : World) : Prop := ∃ p, e = .returned p ∧ Arr w' w'.heap.size p xs ∧ Below w.heap.size w w'

/-- A round of nums: one thunk more. -/
theorem nums_step {w wr w1 : World} {v : Value} {k x : Nat} {ps : List Value} {xs : List Nat} {O : Obj} (hbel : Below w.heap.size w wr) (hown : wr.ownsRow w.heap.size 145 1 v k ps) (hth : Ths wr wr.heap.size ps xs)
    (hgrow : (((wr.alloc (.cells #[.float .f64 x] 147)).alloc (.cells #[.pointer none, .nilIface, .iface 148 (.pointer (some ⟨wr.heap.size, 0, none⟩)), .nilIface] 153)).alloc O).grownBy w1 v.ownBlock) :
    Below w.heap.size w w1 ∧ Ths w1 w1.heap.size (ps ++ [.pointer (some ⟨wr.heap.size + 1, 0, none⟩)]) (xs ++ [x]) := by
  have hs := hbel.size
  have hz : wr.heap.size + 3 ≤ w1.heap.size := by have := hgrow.size; simp at this; omega
  have hv := ((hown.alloc (.cells #[.float .f64 x] 147)).alloc (.cells #[.pointer none, .nilIface, .iface 148 (.pointer (some ⟨wr.heap.size, 0, none⟩)), .nilIface] 153)).alloc O
  have hb0 : Below wr.heap.size wr (((wr.alloc (.cells #[.float .f64 x] 147)).alloc (.cells #[.pointer none, .nilIface, .iface 148 (.pointer (some ⟨wr.heap.size, 0, none⟩)), .nilIface] 153)).alloc O) :=
    ((((Below.refl _ _).alloc (Nat.le_refl _) _).alloc (by simp) _).alloc (by simp; omega) _)
  refine ⟨?_, ?_⟩
  · refine Below.grown (hbel.trans (hb0.mono hs)) hgrow (by simp; omega) ?_
    exact fun k hk => (hown.lt k hk).1
  · refine Ths.append ?_ (Ths.one ?_)
    · exact ((hth.below hb0 (Nat.le_refl _)).grown hgrow hv (by decide) (by decide)).more (by omega)
    · refine (ThOk.grown (B := wr.heap.size + 2) ?_ hgrow hv (by decide) (by decide)).more (by omega)
      refine ⟨wr.heap.size + 1, wr.heap.size, rfl, by omega, by omega, ?_, ?_⟩
      · have := (Blk.new (wr.alloc (.cells #[.float .f64 x] 147)) 153 #[.pointer none, .nilIface, .iface 148 (.pointer (some ⟨wr.heap.size, 0, none⟩)), .nilIface]).alloc O
        simpa using this
      · exact ((Blk.new wr 147 #[.float .f64 x]).alloc _).alloc O

set_option maxRecDepth 100000 in
set_option maxHeartbeats 1600000 in
theorem nums_any (A : Option Addr) (n c : Nat) (xs : List Nat) (B : Nat) (w : World) (h : Flts w B A n xs) (hB : B ≤ w.heap.size) (hn : n ≤ 1000) :
    Calls Try.prog 52 #[.slice A n c] w fun e w' => NumsPost xs w e w' := by
  have HH := Lib.hid h
  have HL := Lib.hid h.len
  clear h
  obtain ⟨i0, hi, hz, hs, hb⟩ := info_parts info_thp
  go_enter Try.func52, Try.ntmps52
  go_wp2
  go_loopw [3, 8] (fun v t wr => ∃ j : Nat, j ≤ n ∧ t = .int .i64 j ∧ Below w.heap.size w wr ∧ ∃ ps, wr.ownsRow w.heap.size 145 1 v j ps ∧ Ths wr wr.heap.size ps (xs.take j)) (fun _ t _ => n - (intOf t).toNat)
  case atStart => exact ⟨0, Nat.zero_le _, rfl, Below.refl _ _, [], World.ownsRow_nil _ _ _ _, Ths.nil _ _⟩
  case round =>
    obtain ⟨j, hj, rfl, hbel, ps, hown, hth⟩ := hrel
    by_cases hlt : j < n
    · obtain ⟨ad, rfl, hbk, hc0⟩ := HH.out.at_ hlt
      have hc := (hbel.cell (p := ad.add j) (by rw [block_of_add]; omega)).trans hc0
      clear hc0
      obtain ⟨x, hx⟩ : ∃ x, x = xs.getD j 0 := ⟨_, rfl⟩
      rw [← hx] at hc
      have HX := Lib.hid hx
      have HT := Lib.hid hth
      have HO := Lib.hid hown
      have hbs := hbel.size
      have HBL := Lib.hid hbel
      clear hx hth hown hbel
      go_wp2_with (first
        | (go_at_call 65; refine (num_any x _).mono ?_; rintro e w' ⟨rfl, rfl⟩)
        | (go_at_call 64; refine (thunk_any _ _ _).mono ?_; rintro e w' ⟨rfl, rfl⟩)
        | (at_builtin; refine wpList_append_x _ rfl (.tmp 12) (.tmp 16) 123 rfl w.heap.size 145 i0 _ 1 8 Try.underlying123 hi hz hs hb rfl (by omega) u3 j ps rfl (((HO.out.alloc _).alloc _).alloc _) (wr.heap.size + 3) (some ⟨wr.heap.size + 2, 0, none⟩) 1 1 [.pointer (some ⟨wr.heap.size + 1, 0, none⟩)] rfl (Reads.ofBlock (cs := #[.pointer (some ⟨wr.heap.size + 1, 0, none⟩)]) (heap_new2 _ _ _ _) rfl (by omega)) (by simp [Value.oneCell']) (.inr (by omega)) (by unfold maxLen; omega) (by omega) (by simp; omega) (wr.heap.size + 3) (by simp) ?_; intro g2 cap2 w2 hown2 hgrow2 hat2 hlt2))
      have R := nums_step HBL.out HO.out HT.out hgrow2
      have hxl : x = xs[j]'(by rw [HL.out]; exact hlt) := by rw [HX.out]; simp [HL.out, hlt]
      clear hgrow2 hat2
      go_roundw
      case rel => exact ⟨j + 1, by omega, by go_num, R.1, _, hown2, by
        rw [List.take_succ_eq_append_getElem (by rw [HL.out]; exact hlt), ← hxl]; exact R.2⟩
      case measure => simp [intOf]; omega
    · obtain rfl : j = n := by omega
      have htk : xs.take j = xs := List.take_of_length_le (by rw [HL.out]; omega)
      rw [htk] at hth
      have HT := Lib.hid hth
      have HO := Lib.hid hown
      have HBL := Lib.hid hbel
      clear hth hown hbel htk
      go_wp2_with fail
      refine (mkArr_any u3 j ps w.heap.size _ HO.out (by omega) (ths_one HT.out)).mono ?_
      rintro e w1 ⟨⟨g, A1, c1, rfl, hg, hblk, hrd⟩, hb1⟩
      have HG := Lib.hid hblk
      have HR := Lib.hid hrd
      have HB1 := Lib.hid hb1
      clear hblk hrd hb1
      go_wp2
      go_ret
      have hbs := HB1.out.size
      refine ⟨_, rfl, ⟨g, A1, c1, ps, rfl, hg, ?_, ?_, (HT.out.below HB1.out (Nat.le_refl _)).more hbs⟩, HBL.out.trans (HB1.out.mono HBL.out.size)⟩
      · rw [HL.out]; exact HG.out
      · rw [HL.out]; exact HR.out
end Go.Proofs.Ythinfliplpjdjaa
