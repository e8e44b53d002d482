/-
  builtinSplitLimit without a limit, strsOf, impl.TextSplitLimit: the parts of a text.
-/
import Derived.Test.YtijfabahpplimaaReplOps
import Derived.Laws.MakeOwn
namespace Go.Proofs.Ytijfabahpplimaa
open Go.RowKit Ieee

/-- A flat string that is this text, in blocks from lo on. -/
def GoL (w : World) (lo B : Nat) (v : Value) (s : ByteArray) : Prop :=
  ∃ (l : List Nat) (g c : Nat) (ad : Addr), text l = s ∧ v = .iface 128 (.pointer (some ⟨g, 0, none⟩)) ∧ lo ≤ g ∧ g < B ∧ l.length ≤ c ∧ Blk w g 131 #[.slice (some ad) l.length c] ∧
    lo ≤ ad.block ∧ ad.block < B ∧ ∀ j u, (runesOf l).toList[j]? = some u → w.cell? (ad.add j) = some u
theorem GoL.below {w w' : World} {lo B C : Nat} {v : Value} {s : ByteArray} (h : GoL w lo B v s) (hb : Below C w w') (hC : B ≤ C) : GoL w' lo B v s := by
  obtain ⟨l, g, c, ad, h1, h2, h3, h4, h5, h6, h7, h8, h9⟩ := h
  exact ⟨l, g, c, ad, h1, h2, h3, h4, h5, h6.below hb (by omega), h7, h8, fun j u hu => (hb.cell (p := ad.add j) (by rw [block_of_add]; omega)).trans (h9 j u hu)⟩
theorem GoL.more {w : World} {lo lo' B C : Nat} {v : Value} {s : ByteArray} (h : GoL w lo B v s) (hC : B ≤ C) (hl : lo' ≤ lo) : GoL w lo' C v s := by
  obtain ⟨l, g, c, ad, h1, h2, h3, h4, h5, h6, h7, h8, h9⟩ := h
  exact ⟨l, g, c, ad, h1, h2, by omega, by omega, h5, h6, by omega, by omega, h9⟩
theorem GoL.far {w : World} {lo B : Nat} {v : Value} {s : ByteArray} (h : GoL w lo B v s) {p : Addr} (hp : p.block < lo) (u : Value) : GoL (w.setCell p u) lo B v s := by
  obtain ⟨l, g, c, ad, h1, h2, h3, h4, h5, h6, h7, h8, h9⟩ := h
  exact ⟨l, g, c, ad, h1, h2, h3, h4, h5, h6.far (by omega) u, h7, h8, fun j x hx => (World.cell?_setCell_other _ _ _ u (fun e => by have := congrArg Addr.block e; rw [block_of_add] at this; omega)).trans (h9 j x hx)⟩
theorem GoL.call {w : World} {lo B : Nat} {v : Value} {s : ByteArray} (h : GoL w lo B v s) (hB : B ≤ w.heap.size) :
    ∃ g : Nat, v = .iface 128 (.pointer (some ⟨g, 0, none⟩)) ∧ Calls Try.prog 91 #[.pointer (some ⟨g, 0, none⟩)] w fun e w' => e = .returned (.string s) ∧ w = w' := by
  obtain ⟨l, g, c, ad, h1, h2, h3, h4, h5, h6, h7, h8, h9⟩ := h
  exact ⟨g, h2, getGoString_any g (some ad) l.length c l w (h6.cell 0) rfl ⟨by simp [runesOf], fun _ => ⟨ad, rfl, by omega, h9⟩⟩ s h1⟩

def MkL (s : ByteArray) (w : World) (e : Ending) (w' : World) : Prop := ∃ v, e = .returned v ∧ GoL w' w.heap.size w'.heap.size v s ∧ Below w.heap.size w w'
set_option maxRecDepth 100000 in
theorem mkString_lo (s : ByteArray) (ht : Txt s) (w : World) :
    Calls Try.prog 34 #[.string s] w (MkL s w) := by
  obtain ⟨l, hsc, rfl⟩ := ht
  obtain ⟨cap, hcap, hr⟩ := run_runes (text l) w
  rw [text_runes l hsc] at hr hcap
  have hsz : (runesOf l).size = l.length := by simp [runesOf]
  obtain ⟨rs, hrs⟩ : ∃ rs, runesOf l = rs := ⟨_, rfl⟩
  rw [hrs] at hr hcap hsz
  have HRS := Lib.hid hrs
  have HCAP := Lib.hid hcap
  have HSZ := Lib.hid hsz
  clear hrs hcap hsz
  go_enter Try.func34, Try.ntmps34
  go_wp2
  go_ret
  generalize hO : (Obj.cells (rs ++ Array.replicate (cap - rs.size) (.int .i32 0)) 21) = O
  have hb2 : Blk ((w.alloc O).alloc (.cells #[.slice (some ⟨w.heap.size, 0, none⟩) rs.size cap] 131)).drew (w.heap.size + 1) 131 #[.slice (some ⟨w.heap.size, 0, none⟩) rs.size cap] := by
    have := (Blk.new (w.alloc O) 131 #[.slice (some ⟨w.heap.size, 0, none⟩) rs.size cap]).drew
    simpa using this
  have hb1 : Blk ((w.alloc O).alloc (.cells #[.slice (some ⟨w.heap.size, 0, none⟩) rs.size cap] 131)).drew w.heap.size 21 (rs ++ Array.replicate (cap - rs.size) (.int .i32 0)) := by
    rw [← hO]
    exact ((Blk.new w _ _).alloc _).drew
  refine ⟨_, rfl, ⟨l, w.heap.size + 1, cap, ⟨w.heap.size, 0, none⟩, rfl, by simp, by omega, hb2.lt, by rw [← HSZ.out]; exact HCAP.out, by rw [← HSZ.out]; exact hb2, Nat.le_refl _, hb1.lt, fun j u hu => ?_⟩, (((Below.refl _ _).alloc (Nat.le_refl _) _).alloc (by simp) _).drew⟩
  rw [HRS.out] at hu
  refine World.news_of_block hb1 j u ?_
  have hj : j < rs.size := by
    have := (List.getElem?_eq_some_iff.1 hu).1
    simpa using this
  rw [Array.toList_append, List.getElem?_append_left (by simpa using hj)]
  exact hu
theorem thunk_any (t : TypeId) (v : Value) (w : World) :
    Calls Try.prog 38 #[.iface t v] w fun e w' => e = .returned (.pointer (some ⟨w.heap.size, 0, none⟩)) ∧ w.alloc (.cells #[.pointer none, .nilIface, .iface t v, .nilIface] 113) = w' := by
  go_enter Try.func38, Try.ntmps38
  go_wp2
  go_ret
  exact ⟨rfl, rfl⟩

/-- A thunk that holds a text. -/
def ThS (w : World) (lo B : Nat) (p : Value) (s : ByteArray) : Prop :=
  ∃ g v, p = .pointer (some ⟨g, 0, none⟩) ∧ lo ≤ g ∧ g < B ∧ Blk w g 113 #[.pointer none, .nilIface, v, .nilIface] ∧ GoL w lo B v s
theorem ThS.below {w w' : World} {lo B C : Nat} {p : Value} {s : ByteArray} (h : ThS w lo B p s) (hb : Below C w w') (hC : B ≤ C) : ThS w' lo B p s := by
  obtain ⟨g, v, h1, h2, h3, h4, h5⟩ := h
  exact ⟨g, v, h1, h2, h3, h4.below hb (by omega), h5.below hb hC⟩
theorem ThS.more {w : World} {lo lo' B C : Nat} {p : Value} {s : ByteArray} (h : ThS w lo B p s) (hC : B ≤ C) (hl : lo' ≤ lo) : ThS w lo' C p s := by
  obtain ⟨g, v, h1, h2, h3, h4, h5⟩ := h
  exact ⟨g, v, h1, by omega, by omega, h4, h5.more hC hl⟩
theorem ThS.far {w : World} {lo B : Nat} {q : Value} {s : ByteArray} (h : ThS w lo B q s) {p : Addr} (hp : p.block < lo) (u : Value) : ThS (w.setCell p u) lo B q s := by
  obtain ⟨g, v, h1, h2, h3, h4, h5⟩ := h
  exact ⟨g, v, h1, h2, h3, h4.far (by omega) u, h5.far hp u⟩

def ThSs (w : World) (lo B : Nat) (ps : List Value) (l : List ByteArray) : Prop := ps.length = l.length ∧ ∀ (i : Nat) (p : Value) (x : ByteArray), ps[i]? = some p → l[i]? = some x → ThS w lo B p x
theorem ThSs.nil (w : World) (lo B : Nat) : ThSs w lo B [] [] := ⟨rfl, fun i p x h => by simp at h⟩
theorem ThSs.below {w w' : World} {lo B C : Nat} {ps : List Value} {l : List ByteArray} (h : ThSs w lo B ps l) (hb : Below C w w') (hC : B ≤ C) : ThSs w' lo B ps l := ⟨h.1, fun i p x a b => (h.2 i p x a b).below hb hC⟩
theorem ThSs.more {w : World} {lo lo' B C : Nat} {ps : List Value} {l : List ByteArray} (h : ThSs w lo B ps l) (hC : B ≤ C) (hl : lo' ≤ lo) : ThSs w lo' C ps l := ⟨h.1, fun i p x a b => (h.2 i p x a b).more hC hl⟩
theorem ThSs.far {w : World} {lo B : Nat} {ps : List Value} {l : List ByteArray} (h : ThSs w lo B ps l) {p : Addr} (hp : p.block < lo) (u : Value) : ThSs (w.setCell p u) lo B ps l := ⟨h.1, fun i q x a b => (h.2 i q x a b).far hp u⟩
theorem ThSs.snoc {w : World} {lo B : Nat} {ps : List Value} {l : List ByteArray} {p : Value} {x : ByteArray} (h : ThSs w lo B ps l) (k : ThS w lo B p x) : ThSs w lo B (ps ++ [p]) (l ++ [x]) := by
  refine ⟨by simp [h.1], fun i q y a b => ?_⟩
  rcases Nat.lt_or_ge i ps.length with hi | hi
  · rw [List.getElem?_append_left hi] at a
    rw [List.getElem?_append_left (by rw [← h.1]; exact hi)] at b
    exact h.2 i q y a b
  · rw [List.getElem?_append_right hi] at a
    rw [List.getElem?_append_right (by rw [← h.1]; exact hi)] at b
    rw [← h.1] at b
    generalize i - ps.length = j at *
    rcases j with _ | j
    · simp at a b; subst a b; exact k
    · simp at a

theorem info_thp : (Try.prog.info? 108).map (fun i => (i.zero, i.size, i.bytes)) = some (some (.pointer none), 1, 8) := by kernel_rfl

/-- An array of texts. -/
def ArrS (w : World) (B : Nat) (v : Value) (l : List ByteArray) : Prop :=
  ∃ g A c ps, v = .iface 107 (.pointer (some ⟨g, 0, none⟩)) ∧ g < B ∧ Blk w g 106 #[.slice A l.length c] ∧ Reads w B 1 A l.length ps ∧ ThSs w 0 B ps l

set_option maxRecDepth 100000 in
theorem mkArrN_any (A : Option Addr) (n : Nat) (w : World) :
    Calls Try.prog 39 #[.slice A n n] w fun e w' => e = .returned (.pointer (some ⟨w.heap.size, 0, none⟩)) ∧ w.alloc (.cells #[.slice A n n] 106) = w' := by
  go_enter Try.func39, Try.ntmps39
  go_wp2
  go_ret
  exact ⟨rfl, rfl⟩

theorem getInt_m1 (i : Value) (g : Nat) (w : World) (hc : w.cell? ⟨g, 0, none⟩ = some (.float .f64 13830554455654793216)) :
    Calls Try.prog 36 #[i, .iface 91 (.pointer (some ⟨g, 0, none⟩))] w fun e w' => e = .returned (.tuple #[.int .i64 (-1), .nilIface]) ∧ w = w' := by
  have hi : floatToIntVal .f64 13830554455654793216 .i32 = some (-1) := by decide +kernel
  have hx : floatOfInt .f64 (-1) = 13830554455654793216 := by decide +kernel
  have k1 : ∀ w, (convert 25 21 (.float .f64 13830554455654793216)).run Try.prog w = .ok (.int .i32 (-1)) w := fun w => run_convert_float_int w _ _ _ _ _ _ (by kernel_rfl) Try.underlying21 hi
  have k2 : ∀ w, (convert 3 25 (.int .i64 (-1))).run Try.prog w = .ok (.float .f64 13830554455654793216) w := fun w => by
    rw [← hx]; exact run_convert_int_float w _ _ _ _ _ (by kernel_rfl) Try.underlying25
  have k3 : (FloatKind.f64.format.order 13830554455654793216 13830554455654793216 != some .eq) = false := by decide +kernel
  clear hi hx
  go_enter Try.func36, Try.ntmps36
  go_wp2_with (go_at_call 42; refine (getNumber_any _ _ _).mono ?_; rintro e w' ⟨rfl, rfl⟩)
  go_ret2
  exact ⟨rfl, rfl⟩
end Go.Proofs.Ytijfabahpplimaa
