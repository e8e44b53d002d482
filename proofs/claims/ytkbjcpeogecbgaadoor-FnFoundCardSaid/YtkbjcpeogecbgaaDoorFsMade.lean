/-
  seenWith, MadeBy: which names the fields have.
-/
import Derived.Test.YtkbjcpeogecbgaaDoorFs
import Derived.Deep.QuietTactic
import Derived.BigQuiet
import Derived.Deep.DeepCutAuto
namespace Go.Proofs.YtkbjcpeogecbgaaDoor
open Go.RowKit

/-- A field: its name, how it is seen. -/
abbrev SN := ByteArray × Int
def cellsS (x : SN) : List Value := [.string x.1, .int .i64 x.2]
def Seens (w : World) (B : Nat) (A : Option Addr) (n : Nat) (l : List SN) : Prop := l.length = n ∧ Reads w B 2 A n (l.flatMap cellsS)
theorem flatS_get : ∀ (es : List SN) (k j : Nat) (e : SN), es[k]? = some e → j < 2 → (es.flatMap cellsS)[k * 2 + j]? = (cellsS e)[j]?
  | [], k, j, e, h, _ => by simp at h
  | x :: es, 0, j, e, h, hj => by
    simp at h
    subst h
    rw [List.flatMap_cons, List.getElem?_append_left (by simp [cellsS]; omega)]
    simp
  | x :: es, k + 1, j, e, h, hj => by
    have hl : (cellsS x).length = 2 := rfl
    rw [List.flatMap_cons, List.getElem?_append_right (by rw [hl]; omega), hl]
    have e1 : (k + 1) * 2 + j - 2 = k * 2 + j := by omega
    rw [e1]
    exact flatS_get es k j e (by simpa using h) hj
theorem flatS_len : ∀ es : List SN, (es.flatMap cellsS).length = es.length * 2
  | [] => rfl
  | e :: r => by
    rw [List.flatMap_cons, List.length_append, flatS_len r, List.length_cons]
    show 2 + _ = _
    omega
theorem Seens.at_ {w : World} {B : Nat} {A : Option Addr} {n : Nat} {es : List SN} (h : Seens w B A n es) {k : Nat} (hk : k < n) :
    ∃ b o e, A = some ⟨b, o, none⟩ ∧ b < B ∧ es[k]? = some e ∧ w.cell? ⟨b, o + k * 2, none⟩ = some (.string e.1) ∧ w.cell? ⟨b, o + k * 2 + 1, none⟩ = some (.int .i64 e.2) := by
  obtain ⟨hl, hr⟩ := h
  obtain ⟨ad, hA, hb, hc⟩ := hr.2 (by omega)
  have hkl : k < es.length := by omega
  have hke := List.getElem?_eq_getElem hkl
  have g := fun j (hj : j < 2) => flatS_get es k j _ hke hj
  obtain ⟨b, o, spot⟩ := ad
  have c0 := hc (0 * 2 + 0) _ (flatS_get es 0 0 _ (List.getElem?_eq_getElem (show 0 < es.length by omega)) (by omega))
  obtain rfl : spot = none := by simpa [Addr.add] using World.cell?_spot c0
  have e0 := hc (k * 2 + 0) _ (g 0 (by omega))
  have e1 := hc (k * 2 + 1) _ (g 1 (by omega))
  simp only [Addr.add_lit, ← Nat.add_assoc, Nat.add_zero] at e0 e1
  exact ⟨b, o, es[k], hA, hb, hke, e0, e1⟩
theorem Seens.below {w w' : World} {B C : Nat} {A : Option Addr} {n : Nat} {es : List SN} (h : Seens w B A n es) (hb : Below C w w') (hC : B ≤ C) : Seens w' B A n es := ⟨h.1, h.2.below (hb.mono hC)⟩
theorem Seens.more {w : World} {B C : Nat} {A : Option Addr} {n : Nat} {es : List SN} (h : Seens w B A n es) (hC : B ≤ C) : Seens w C A n es := ⟨h.1, h.2.more hC⟩

/-- Is a name among the first k? -/
def amid (l : List SN) (k : Nat) (s : ByteArray) : Prop := ∃ i x, i < k ∧ l[i]? = some x ∧ x.1 = s
theorem info_sn : (Tryd.prog.info? 33).map (fun i => (i.zero, i.size, i.bytes)) = some (some (.agg #[.string ByteArray.empty, .int .i64 0]), 2, 24) := by kernel_rfl
theorem heap_new1 (w : World) (a o : Obj) : ((w.alloc a).alloc o).heap[w.heap.size + 1]? = some o := by
  have := heap_alloc_new (w.alloc a) o
  simpa using this
theorem Reads.ofBlock {w : World} {B size n g : Nat} {cs : Array Value} {t : TypeId} {fr : Nat × Nat} (h : w.heap[g]? = some (.cells cs t fr)) (hs : cs.size = n * size) (hg : g < B) : Reads w B size (some ⟨g, 0, none⟩) n cs.toList :=
  ⟨by simpa using hs, fun _ => ⟨_, rfl, hg, World.news_of_block h⟩⟩
/-- What seenWith has made of the first k fields: x is laid in where its place comes up. -/
def SW (l out : List SN) (nm : ByteArray) (k : Nat) (done : Bool) : Prop :=
  out.length ≤ k + (if done = true then 1 else 0) ∧ ∀ s, (∃ x ∈ out, x.1 = s) ↔ (amid l k s ∧ s ≠ nm) ∨ (done = true ∧ s = nm)
theorem SW.len {l out : List SN} {nm : ByteArray} {k : Nat} {done : Bool} (h : SW l out nm k done) : out.length ≤ k + 1 := by
  have := h.1
  cases done <;> simp at this <;> omega
theorem sw_start (l : List SN) (nm : ByteArray) : SW l [] nm 0 false := by
  refine ⟨by simp, fun s => ?_⟩
  constructor
  · rintro ⟨x, hx, _⟩; cases hx
  · rintro (⟨⟨i, x, hi, _⟩, _⟩ | ⟨h, _⟩)
    · omega
    · cases h
theorem amid_succ {l : List SN} {k : Nat} {e : SN} (he : l[k]? = some e) (s : ByteArray) : amid l (k + 1) s ↔ amid l k s ∨ e.1 = s := by
  constructor
  · rintro ⟨i, x, hi, hx, hs⟩
    rcases Nat.lt_or_ge i k with h | h
    · exact .inl ⟨i, x, h, hx, hs⟩
    · obtain rfl : i = k := by omega
      rw [he] at hx
      cases hx
      exact .inr hs
  · rintro (⟨i, x, hi, hx, hs⟩ | hs)
    · exact ⟨i, x, by omega, hx, hs⟩
    · exact ⟨k, e, by omega, he, hs⟩
/-- x is laid in. -/
theorem sw_put {l out : List SN} {nm : ByteArray} {k : Nat} (h : SW l out nm k false) (hd : Int) : SW l (out ++ [(nm, hd)]) nm k true := by
  obtain ⟨h1, h2⟩ := h
  refine ⟨by simp at h1 ⊢; omega, fun s => ?_⟩
  constructor
  · rintro ⟨x, hx, rfl⟩
    rcases List.mem_append.1 hx with hx | hx
    · rcases (h2 _).1 ⟨x, hx, rfl⟩ with h | h
      · exact .inl h
      · cases h.1
    · rw [List.mem_singleton] at hx
      subst hx
      exact .inr ⟨rfl, rfl⟩
  · rintro (h | ⟨_, rfl⟩)
    · obtain ⟨x, hx, hs⟩ := (h2 s).2 (.inl h)
      exact ⟨x, List.mem_append_left _ hx, hs⟩
    · exact ⟨(s, hd), by simp, rfl⟩
/-- A field of the list goes on. -/
theorem sw_next {l out : List SN} {nm : ByteArray} {k : Nat} {done : Bool} {e : SN} (h : SW l out nm k done) (he : l[k]? = some e) (hne : e.1 ≠ nm) : SW l (out ++ [e]) nm (k + 1) done := by
  obtain ⟨h1, h2⟩ := h
  refine ⟨by simp; omega, fun s => ?_⟩
  rw [amid_succ he]
  constructor
  · rintro ⟨x, hx, rfl⟩
    rcases List.mem_append.1 hx with hx | hx
    · rcases (h2 _).1 ⟨x, hx, rfl⟩ with h | h
      · exact .inl ⟨.inl h.1, h.2⟩
      · exact .inr h
    · rw [List.mem_singleton] at hx
      subst hx
      exact .inl ⟨.inr rfl, hne⟩
  · rintro (⟨h | h, hn⟩ | h)
    · obtain ⟨x, hx, hs⟩ := (h2 s).2 (.inl ⟨h, hn⟩)
      exact ⟨x, List.mem_append_left _ hx, hs⟩
    · exact ⟨e, by simp, h⟩
    · obtain ⟨x, hx, hs⟩ := (h2 s).2 (.inr h)
      exact ⟨x, List.mem_append_left _ hx, hs⟩
/-- A field with x's name falls away. -/
theorem sw_drop {l out : List SN} {nm : ByteArray} {k : Nat} {done : Bool} {e : SN} (h : SW l out nm k done) (he : l[k]? = some e) (heq : e.1 = nm) : SW l out nm (k + 1) done := by
  obtain ⟨h1, h2⟩ := h
  refine ⟨by omega, fun s => ?_⟩
  rw [amid_succ he, h2]
  constructor
  · rintro (⟨h, hn⟩ | h)
    · exact .inl ⟨.inl h, hn⟩
    · exact .inr h
  · rintro (⟨h | h, hn⟩ | h)
    · exact .inl ⟨h, hn⟩
    · exact absurd (h.symm.trans heq) hn
    · exact .inr h
theorem sw_end {l out : List SN} {nm : ByteArray} (h : SW l out nm l.length true) : out.length ≤ l.length + 1 ∧ ∀ s, (∃ x ∈ out, x.1 = s) ↔ (∃ x ∈ l, x.1 = s) ∨ s = nm := by
  refine ⟨by simpa using h.1, fun s => ?_⟩
  rw [h.2]
  constructor
  · rintro (⟨⟨i, x, hi, hx, hs⟩, _⟩ | ⟨_, h⟩)
    · exact .inl ⟨x, List.mem_of_getElem? hx, hs⟩
    · exact .inr h
  · rintro (⟨x, hx, hs⟩ | h)
    · by_cases hn : s = nm
      · exact .inr ⟨rfl, hn⟩
      · obtain ⟨i, hi, rfl⟩ := List.getElem_of_mem hx
        exact .inl ⟨⟨i, _, hi, List.getElem?_eq_getElem hi, hs⟩, hn⟩
    · exact .inr ⟨rfl, h⟩

theorem below_drewN {B : Nat} {a w : World} (h : Below B a w) : ∀ q, Below B a (w.drewN q)
  | 0 => h
  | q + 1 => (below_drewN h q).drew
def SwPost (l : List SN) (nm : ByteArray) (w : World) (e : Ending) (w' : World) : Prop :=
  (∃ (A : Option Addr) (c : Nat) (out : List SN), e = .returned (.slice A out.length c) ∧ Seens w' w'.heap.size A out.length out ∧ out.length ≤ l.length + 1 ∧ ∀ s, (∃ x ∈ out, x.1 = s) ↔ (∃ x ∈ l, x.1 = s) ∨ s = nm) ∧ Below w.heap.size w w'
/-- What stands at the head of a round. -/
def SWI (w wr : World) (l : List SN) (nm : ByteArray) (k : Nat) (done : Bool) (u : Value) : Prop :=
  ∃ out : List SN, ∃ hd : Int, SW l out nm k done ∧ wr.ownsRow (w.heap.size + 1) 33 2 u out.length (out.flatMap cellsS) ∧ Blk wr w.heap.size 33 #[.string nm, .int .i64 hd] ∧ Below w.heap.size w wr ∧ w.heap.size + 1 ≤ wr.heap.size

theorem str_beq (a b : ByteArray) : (a.toList == b.toList) = decide (a = b) := by
  rw [ByteArray.toList_eq, ByteArray.toList_eq]
  by_cases h : a = b
  · subst h; simp
  · have : a.data.toList ≠ b.data.toList := fun e => h (WideShapes.bytes_inj e)
    rw [decide_eq_false h]
    exact beq_eq_false_iff_ne.2 this

def SomeB (w : World) (e : Ending) (w' : World) : Prop := (∃ b, e = .returned (.bool b)) ∧ w = w'
def SomeBN (w : World) (e : Ending) (w' : World) : Prop := (∃ b, e = .returned (.bool b)) ∧ Below w.heap.size w w'

set_option maxRecDepth 100000 in
theorem grownBy_setS (w : World) (p : Addr) (v : Value) : w.grownBy (w.setCell p v) (some p.block) :=
  ⟨rfl, rfl, rfl, by simp [World.setCell], fun i _ hi => Below.heap_setCell w p v i (fun e => hi (by rw [e]))⟩
theorem swi_app {w W w2 : World} {l out : List SN} {nm : ByteArray} {k : Nat} {done : Bool} {hx : Int} {x : SN} {O : Obj} {v : Value} {g cap : Nat}
    (hsw : SW l (out ++ [x]) nm k done) (hown : W.ownsRow (w.heap.size + 1) 33 2 v out.length (out.flatMap cellsS)) (hB : Blk W w.heap.size 33 #[.string nm, .int .i64 hx])
    (hbw : Below w.heap.size w W) (h5 : w.heap.size + 1 ≤ W.heap.size)
    (hown2 : w2.ownsRow (w.heap.size + 1) 33 2 (.slice (some ⟨g, 0, none⟩) (out.length + 1) cap) (out.length + 1) (out.flatMap cellsS ++ [.string x.1, .int .i64 x.2]))
    (hgrow : (W.alloc O).grownBy w2 v.ownBlock) : SWI w w2 l nm k done (.slice (some ⟨g, 0, none⟩) (out.length + 1) cap) := by
  have hs2 := hgrow.size
  simp at hs2
  refine ⟨out ++ [x], hx, hsw, by simpa [List.flatMap_append, cellsS] using hown2, (hB.alloc O).grown hgrow ?_, (hbw.alloc (by omega) O).grown hgrow (by simp; omega) ?_, by omega⟩
  · intro he
    have := hown.lt _ he.symm
    omega
  · intro q hq
    have := hown.lt _ hq
    omega

set_option maxRecDepth 100000 in
set_option maxHeartbeats 3200000 in
theorem seenWith_any (A : Option Addr) (n c : Nat) (l : List SN) (nm : ByteArray) (hd : Int) (w : World) (h : Seens w w.heap.size A n l) (hn : n ≤ 1000) :
    Calls Tryd.prog 17 #[.slice A n c, .agg #[.string nm, .int .i64 hd]] w (SwPost l nm w) := by
  have HH := Lib.hid h
  have HL := Lib.hid h.1
  clear h
  obtain ⟨i1, hi1, hz1, hsz1, hb1⟩ := info_parts info_sn
  go_enter Tryd.func17, Tryd.ntmps17
  go_wp2_with fail
  go_loopw [5, 6, 7] (fun u d t wr => ∃ k : Nat, k ≤ n ∧ t = .int .i64 k ∧ ∃ done : Bool, d = .bool done ∧ Hid (SWI w wr l nm k done u)) (fun _ _ t _ => n - (intOf t).toNat)
  case atStart =>
    refine ⟨0, Nat.zero_le _, rfl, false, rfl, Lib.hid ⟨[], hd, sw_start l nm, World.ownsRow_nil _ _ _ _, ?_, ?_, by simp⟩⟩
    · exact Blk.new _ _ _
    · exact (Below.refl _ _).alloc (Nat.le_refl _) _
  case round =>
    obtain ⟨k, hk, rfl, done, rfl, HI⟩ := hrel
    by_cases hlt : k < n
    · obtain ⟨out, hx, h1, h2, h3, h4, h5⟩ := HI.out
      obtain ⟨b, o, e, rfl, hbb, hek, c0, c1⟩ := (HH.out.below h4 (Nat.le_refl _)).at_ hlt
      have HE := Lib.hid hek
      have p0 := h3.cell 0
      have p1 := h3.cell 1
      have p2 := h3.frozen 1
      simp only [List.getElem?_toArray, List.getElem?_cons_zero, List.getElem?_cons_succ] at p0 p1
      have HSW := Lib.hid h1
      have HOW := Lib.hid h2
      have HBX := Lib.hid h3
      have HBW := Lib.hid h4
      clear hek h1 h2 h3 h4
      obtain ⟨en, eh⟩ := e
      simp only at c0 c1
      have hbl : b < w.heap.size := hbb
      have d0 := fun (q : Nat) => (show (wr.drewN q).cell? ⟨b, o + k * 2, none⟩ = some (.string en) from c0)
      have d1 := fun (q : Nat) => (show (wr.drewN q).cell? ⟨b, o + k * 2 + 1, none⟩ = some (.int .i64 eh) from c1)
      have r0 := fun (q : Nat) => (show (wr.drewN q).cell? ⟨w.heap.size, 0, none⟩ = some (.string nm) from p0)
      have r1 := fun (q : Nat) => (show (wr.drewN q).cell? ⟨w.heap.size, 1, none⟩ = some (.int .i64 hx) from p1)
      have C0 := Lib.hid ((HBW.out.cell (p := ⟨b, o + k * 2, none⟩) hbl).symm.trans c0)
      have C1 := Lib.hid ((HBW.out.cell (p := ⟨b, o + k * 2 + 1, none⟩) hbl).symm.trans c1)
      have HBQ := fun q => Lib.hid (below_drewN HBW.out q)
      have HOQ := fun q => Lib.hid (show (wr.drewN q).ownsRow (w.heap.size + 1) 33 2 u5 out.length (out.flatMap cellsS) from HOW.out)
      have HXQ := fun q => Lib.hid (show Blk (wr.drewN q) w.heap.size 33 #[.string nm, .int .i64 hx] from HBX.out)
      by_cases hen : en = nm
      · have q1 : (en.toList == nm.toList) = true := by rw [str_beq]; exact decide_eq_true hen
        have q2 : (en.toList != nm.toList) = false := by rw [bne, q1]; rfl
        cases done
        · go_wp2_with fail
          go_quiet ((fail))
          go_upto_if 25 with fail
          go_cut [5, 6] (fun s5 s6 wx => ∃ done2 : Bool, s6 = .bool done2 ∧ Hid (SWI w wx l nm k done2 s5))
          case first =>
            go_wp2_with fail
            · go_quiet ((fail))
              go_upto_if 38 with fail
              go_cut [6] (fun s6 wx => s6 = .bool false ∧ ∃ hx2 : Int, Hid (wx.ownsRow (w.heap.size + 1) 33 2 u5 out.length (out.flatMap cellsS)) ∧ Hid (Blk wx w.heap.size 33 #[.string nm, .int .i64 hx2]) ∧ Hid (Below w.heap.size w wx) ∧ w.heap.size + 1 ≤ wx.heap.size)
              case first =>
                go_wp2_with fail
                all_goals go_meet
                all_goals
                  first
                    | exact ⟨rfl, hx, HOW, HBX, Lib.hid (by first | exact below_drewN HBW.out _ | exact below_drewN (below_drewN HBW.out _) _), h5⟩
                    | exact ⟨rfl, eh, Lib.hid ((HOQ _).out.kept (grownBy_setS _ _ _) (.inr (by intro he; have h6 : w.heap.size + 1 ≤ w.heap.size := (HOW.out.lt _ he).1; omega))), Lib.hid (by simpa using (HXQ _).out.set_ 1 (.int .i64 eh)), Lib.hid ((HBQ _).out.setCell (p := ⟨w.heap.size, 1, none⟩) (Nat.le_refl _) _), by simp [World.setCell]; exact h5⟩
              case rest =>
                obtain ⟨rfl, hx2, HOW1, HBX1, HBW1, h51⟩ := hcut
                obtain ⟨w1, hw1⟩ : ∃ w1, w1 = wc := ⟨_, rfl⟩
                subst hw1
                have p0 := HBX1.out.cell 0
                have p1 := HBX1.out.cell 1
                simp only [List.getElem?_toArray, List.getElem?_cons_zero, List.getElem?_cons_succ] at p0 p1
                have HSW2 := HSW
                go_wp2_with ((at_builtin; refine wpList_append_x _ rfl (.tmp 45) (.tmp 47) 30 rfl (w.heap.size + 1) 33 i1 _ 2 24 Tryd.underlying30 hi1 hz1 hsz1 hb1 rfl (by omega) u5 out.length _ rfl (World.ownsRow.alloc HOW1.out _) (w1.heap.size + 1) (some ⟨w1.heap.size, 0, none⟩) 1 1 [.string nm, .int .i64 hx2] rfl (Reads.ofBlock (cs := #[.string nm, .int .i64 hx2]) (heap_alloc_new _ _) rfl (by omega)) (by simp [Value.oneCell']) (.inr (by omega)) (by have := HSW2.out.len; unfold maxLen; omega) (by have := HSW2.out.len; omega) (by simp; omega) (w1.heap.size + 1) (by simp) ?_; intro g2 cap2 w2 hown2 hgrow2 hat2 hlt2))
                go_meet
                exact ⟨true, rfl, Lib.hid (swi_app (x := (nm, hx2)) (sw_put HSW.out hx2) HOW1.out HBX1.out HBW1.out h51 hown2 hgrow2)⟩
            · go_meet
              exact ⟨false, rfl, Lib.hid ⟨out, hx, HSW.out, HOW.out, HBX.out, below_drewN HBW.out _, h5⟩⟩
          case rest =>
            obtain ⟨done2, rfl, HI2⟩ := hcut
            obtain ⟨wx, hwx⟩ : ∃ wx, wx = wc := ⟨_, rfl⟩
            subst hwx
            obtain ⟨out2, hx2, g1, g2, g3, g4, g5⟩ := HI2.out
            have c0 := (g4.cell (p := ⟨b, o + k * 2, none⟩) hbl).trans C0.out
            have c1 := (g4.cell (p := ⟨b, o + k * 2 + 1, none⟩) hbl).trans C1.out
            have p0 := g3.cell 0
            have p1 := g3.cell 1
            simp only [List.getElem?_toArray, List.getElem?_cons_zero, List.getElem?_cons_succ] at p0 p1
            have HSW2 := Lib.hid g1
            have HOW2 := Lib.hid g2
            have HBX2 := Lib.hid g3
            have HBW2 := Lib.hid g4
            clear g1 g2 g3 g4
            go_wp2_with fail
            go_quiet ((fail))
            go_wp2_with fail
            go_roundw
            case rel => exact ⟨k + 1, by omega, by go_num, _, rfl, Lib.hid ⟨out2, hx2, sw_drop HSW2.out HE.out hen, HOW2.out, HBX2.out, below_drewN HBW2.out _, g5⟩⟩
            case measure => simp [intOf]; omega
        · go_wp2_with fail
          go_quiet ((fail))
          go_wp2_with fail
          go_quiet ((fail))
          go_wp2_with fail
          go_roundw
          case rel => exact ⟨k + 1, by omega, by go_num, _, rfl, Lib.hid ⟨out, hx, sw_drop HSW.out HE.out hen, HOW.out, HBX.out, (by first | exact below_drewN HBW.out _ | exact below_drewN (below_drewN HBW.out _) _), h5⟩⟩
          case measure => simp [intOf]; omega
      · have q1 : (en.toList == nm.toList) = false := by rw [str_beq]; exact decide_eq_false hen
        have q2 : (en.toList != nm.toList) = true := by rw [bne, q1]; rfl
        cases done
        · go_wp2_with fail
          go_quiet ((fail))
          go_upto_if 25 with fail
          go_cut [5, 6] (fun s5 s6 wx => ∃ done2 : Bool, s6 = .bool done2 ∧ Hid (SWI w wx l nm k done2 s5))
          case first =>
            go_wp2_with fail
            · go_quiet ((fail))
              go_upto_if 38 with fail
              go_cut [6] (fun s6 wx => s6 = .bool false ∧ ∃ hx2 : Int, Hid (wx.ownsRow (w.heap.size + 1) 33 2 u5 out.length (out.flatMap cellsS)) ∧ Hid (Blk wx w.heap.size 33 #[.string nm, .int .i64 hx2]) ∧ Hid (Below w.heap.size w wx) ∧ w.heap.size + 1 ≤ wx.heap.size)
              case first =>
                go_wp2_with fail
                all_goals go_meet
                all_goals
                  first
                    | exact ⟨rfl, hx, HOW, HBX, Lib.hid (by first | exact below_drewN HBW.out _ | exact below_drewN (below_drewN HBW.out _) _), h5⟩
                    | exact ⟨rfl, eh, Lib.hid ((HOQ _).out.kept (grownBy_setS _ _ _) (.inr (by intro he; have h6 : w.heap.size + 1 ≤ w.heap.size := (HOW.out.lt _ he).1; omega))), Lib.hid (by simpa using (HXQ _).out.set_ 1 (.int .i64 eh)), Lib.hid ((HBQ _).out.setCell (p := ⟨w.heap.size, 1, none⟩) (Nat.le_refl _) _), by simp [World.setCell]; exact h5⟩
              case rest =>
                obtain ⟨rfl, hx2, HOW1, HBX1, HBW1, h51⟩ := hcut
                obtain ⟨w1, hw1⟩ : ∃ w1, w1 = wc := ⟨_, rfl⟩
                subst hw1
                have p0 := HBX1.out.cell 0
                have p1 := HBX1.out.cell 1
                simp only [List.getElem?_toArray, List.getElem?_cons_zero, List.getElem?_cons_succ] at p0 p1
                have HSW2 := HSW
                go_wp2_with ((at_builtin; refine wpList_append_x _ rfl (.tmp 45) (.tmp 47) 30 rfl (w.heap.size + 1) 33 i1 _ 2 24 Tryd.underlying30 hi1 hz1 hsz1 hb1 rfl (by omega) u5 out.length _ rfl (World.ownsRow.alloc HOW1.out _) (w1.heap.size + 1) (some ⟨w1.heap.size, 0, none⟩) 1 1 [.string nm, .int .i64 hx2] rfl (Reads.ofBlock (cs := #[.string nm, .int .i64 hx2]) (heap_alloc_new _ _) rfl (by omega)) (by simp [Value.oneCell']) (.inr (by omega)) (by have := HSW2.out.len; unfold maxLen; omega) (by have := HSW2.out.len; omega) (by simp; omega) (w1.heap.size + 1) (by simp) ?_; intro g2 cap2 w2 hown2 hgrow2 hat2 hlt2))
                go_meet
                exact ⟨true, rfl, Lib.hid (swi_app (x := (nm, hx2)) (sw_put HSW.out hx2) HOW1.out HBX1.out HBW1.out h51 hown2 hgrow2)⟩
            · go_meet
              exact ⟨false, rfl, Lib.hid ⟨out, hx, HSW.out, HOW.out, HBX.out, below_drewN HBW.out _, h5⟩⟩
          case rest =>
            obtain ⟨done2, rfl, HI2⟩ := hcut
            obtain ⟨wx, hwx⟩ : ∃ wx, wx = wc := ⟨_, rfl⟩
            subst hwx
            obtain ⟨out2, hx2, g1, g2, g3, g4, g5⟩ := HI2.out
            have c0 := (g4.cell (p := ⟨b, o + k * 2, none⟩) hbl).trans C0.out
            have c1 := (g4.cell (p := ⟨b, o + k * 2 + 1, none⟩) hbl).trans C1.out
            have p0 := g3.cell 0
            have p1 := g3.cell 1
            simp only [List.getElem?_toArray, List.getElem?_cons_zero, List.getElem?_cons_succ] at p0 p1
            have HSW2 := Lib.hid g1
            have HOW2 := Lib.hid g2
            have HBX2 := Lib.hid g3
            have HBW2 := Lib.hid g4
            clear g1 g2 g3 g4
            go_wp2_with fail
            go_quiet ((fail))
            have c0q := fun (q : Nat) => (show (wx.drewN q).cell? ⟨b, o + k * 2, none⟩ = some (.string en) from c0)
            have c1q := fun (q : Nat) => (show (wx.drewN q).cell? ⟨b, o + k * 2 + 1, none⟩ = some (.int .i64 eh) from c1)
            go_wp2_with ((at_builtin; refine wpList_append_x _ rfl (.tmp 57) (.tmp 62) 30 rfl (w.heap.size + 1) 33 i1 _ 2 24 Tryd.underlying30 hi1 hz1 hsz1 hb1 rfl (by omega) u5 out2.length _ rfl (World.ownsRow.alloc HOW2.out _) (wx.heap.size + 1) (some ⟨wx.heap.size, 0, none⟩) 1 1 [.string en, .int .i64 eh] rfl (Reads.ofBlock (cs := #[.string en, .int .i64 eh]) (heap_alloc_new _ _) rfl (by omega)) (by simp [Value.oneCell']) (.inr (by omega)) (by have := HSW2.out.len; unfold maxLen; omega) (by have := HSW2.out.len; omega) (by simp; omega) (wx.heap.size + 1) (by simp) ?_; intro g2 cap2 w2 hown2 hgrow2 hat2 hlt2))
            have HN := Lib.hid (swi_app (W := wx.drewN _) (x := (en, eh)) (sw_next HSW2.out HE.out hen) HOW2.out HBX2.out (below_drewN HBW2.out _) g5 hown2 hgrow2)
            clear hown2 hgrow2 hat2
            go_roundw
            case rel => exact ⟨k + 1, by omega, by go_num, _, rfl, HN⟩
            case measure => simp [intOf]; omega
        · go_wp2_with fail
          go_quiet ((fail))
          go_wp2_with fail
          go_quiet ((fail))
          go_wp2_with ((at_builtin; refine wpList_append_x _ rfl (.tmp 57) (.tmp 62) 30 rfl (w.heap.size + 1) 33 i1 _ 2 24 Tryd.underlying30 hi1 hz1 hsz1 hb1 rfl (by omega) u5 out.length _ rfl (World.ownsRow.alloc HOW.out _) (wr.heap.size + 1) (some ⟨wr.heap.size, 0, none⟩) 1 1 [.string en, .int .i64 eh] rfl (Reads.ofBlock (cs := #[.string en, .int .i64 eh]) (heap_alloc_new _ _) rfl (by omega)) (by simp [Value.oneCell']) (.inr (by omega)) (by have := HSW.out.len; unfold maxLen; omega) (by have := HSW.out.len; omega) (by simp; omega) (wr.heap.size + 1) (by simp) ?_; intro g2 cap2 w2 hown2 hgrow2 hat2 hlt2))
          have HN := Lib.hid (swi_app (W := World.drewN wr _) (x := (en, eh)) (sw_next HSW.out HE.out hen) HOW.out HBX.out (below_drewN HBW.out _) h5 hown2 hgrow2)
          clear hown2 hgrow2 hat2
          go_roundw
          case rel => exact ⟨k + 1, by omega, by go_num, _, rfl, HN⟩
          case measure => simp [intOf]; omega
    · obtain rfl : k = n := by omega
      obtain ⟨out, hx, h1, h2, h3, h4, h5⟩ := HI.out
      have p0 := h3.cell 0
      have p1 := h3.cell 1
      simp only [List.getElem?_toArray, List.getElem?_cons_zero, List.getElem?_cons_succ] at p0 p1
      have HSW := Lib.hid h1
      have HOW := Lib.hid h2
      have HBX := Lib.hid h3
      have HBW := Lib.hid h4
      clear h1 h2 h3 h4
      cases done
      · go_wp2_with ((at_builtin; refine wpList_append_x _ rfl (.tmp 66) (.tmp 68) 30 rfl (w.heap.size + 1) 33 i1 _ 2 24 Tryd.underlying30 hi1 hz1 hsz1 hb1 rfl (by omega) u5 out.length _ rfl (World.ownsRow.alloc HOW.out _) (wr.heap.size + 1) (some ⟨wr.heap.size, 0, none⟩) 1 1 [.string nm, .int .i64 hx] rfl (Reads.ofBlock (cs := #[.string nm, .int .i64 hx]) (heap_alloc_new _ _) rfl (by omega)) (by simp [Value.oneCell']) (.inr (by omega)) (by have := HSW.out.len; unfold maxLen; omega) (by have := HSW.out.len; omega) (by simp; omega) (wr.heap.size + 1) (by simp) ?_; intro g2 cap2 w2 hown2 hgrow2 hat2 hlt2))
        have HN := Lib.hid (swi_app (x := (nm, hx)) (sw_put HSW.out hx) HOW.out HBX.out HBW.out h5 hown2 hgrow2)
        clear hown2 hgrow2 hat2
        obtain ⟨out2, hx2, g1, g2, -, g4, g5⟩ := HN.out
        have hlen : out.length + 1 = out2.length := by
          rcases g2.2 with ⟨h, _⟩ | ⟨_, _, _, h, _⟩
          · cases h
          · injection h
        rw [hlen] at g2
        have hr := Reads.of_own g2
        go_ret
        refine ⟨⟨_, _, out2, congrArg (fun q => Ending.returned (.slice _ q _)) hlen, ⟨rfl, hr⟩, ?_, ?_⟩, g4⟩
        · exact (sw_end (by rw [HL.out]; exact g1)).1
        · exact (sw_end (by rw [HL.out]; exact g1)).2
      · go_wp2_with fail
        have h6 := HOW.out
        obtain ⟨A4, c4, rfl⟩ : ∃ A c, u5 = .slice A out.length c := by
          rcases h6.2 with ⟨rfl, h0⟩ | ⟨g, cap, cur, rfl, _⟩
          · exact ⟨none, 0, by rw [h0]⟩
          · exact ⟨_, cap, rfl⟩
        go_wp2_with fail
        go_ret
        refine ⟨⟨_, _, out, rfl, ⟨rfl, Reads.of_own HOW.out⟩, ?_, ?_⟩, HBW.out⟩
        · exact (sw_end (by rw [HL.out]; exact HSW.out)).1
        · exact (sw_end (by rw [HL.out]; exact HSW.out)).2
end Go.Proofs.YtkbjcpeogecbgaaDoor
