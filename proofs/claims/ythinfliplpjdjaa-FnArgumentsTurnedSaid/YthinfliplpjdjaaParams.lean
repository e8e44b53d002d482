/-
  params, PartArguments, impl.Arguments: a call goes through just if callOk says so.
-/
import Derived.Test.YthinfliplpjdjaaArgs
namespace Go.Proofs.Ythinfliplpjdjaa
open Go.RowKit

/-- A slice of truths that is read. -/
def Bools (w : World) (B : Nat) (A : Option Addr) (n : Nat) (bs : List Bool) : Prop := Reads w B 1 A n (bs.map Value.bool)
theorem Bools.at_ {w : World} {B : Nat} {A : Option Addr} {n : Nat} {bs : List Bool} (h : Bools w B A n bs) {k : Nat} (hk : k < n) :
    ∃ ad, A = some ad ∧ ad.block < B ∧ w.cell? (ad.add k) = some (.bool (bs.getD k false)) := by
  obtain ⟨ad, u, hA, hb, hx, hc⟩ := Reads.at_ h hk
  refine ⟨ad, hA, hb, ?_⟩
  rw [hc]
  simp only [List.getElem?_map, Option.map_eq_some_iff] at hx
  obtain ⟨s, hs, rfl⟩ := hx
  simp [hs]
theorem Bools.len {w : World} {B : Nat} {A : Option Addr} {n : Nat} {bs : List Bool} (h : Bools w B A n bs) : bs.length = n := by
  simpa using h.1

theorem heap_new1 (w : World) (a o : Obj) : ((w.alloc a).alloc o).heap[w.heap.size + 1]? = some o := by
  have := heap_alloc_new (w.alloc a) o
  simpa using this
def PaPost (P : List ByteArray) (opt : List Bool) (w : World) (e : Ending) (w' : World) : Prop :=
  (∃ A c ps, e = .returned (.slice A P.length c) ∧ Pars w' w'.heap.size A P.length ps ∧ namesP ps = P ∧ optsP ps = opt ∧ ∀ e ∈ ps, e.1 = .nilIface ∨ ∃ t v, e.1 = .iface t v) ∧ Below w.heap.size w w'

set_option maxRecDepth 100000 in
set_option maxHeartbeats 3200000 in
theorem params_any (A : Option Addr) (n c : Nat) (P : List ByteArray) (A2 : Option Addr) (c2 : Nat) (opt : List Bool) (B : Nat) (w : World) (h : Strs w B A n P) (h2 : Bools w B A2 n opt) (hB : B ≤ w.heap.size) (hn : n ≤ 100) :
    Calls Try.prog 57 #[.slice A n c, .slice A2 n c2] w (PaPost P opt w) := by
  have HH := Lib.hid h
  have HL := Lib.hid h.len
  have H2 := Lib.hid h2
  have HL2 := Lib.hid h2.len
  clear h h2
  obtain ⟨i1, hi1, hz1, hsz1, hb1⟩ := info_parts info_npa
  go_enter Try.func57, Try.ntmps57
  go_wp2
  go_loopw [5, 11] (fun u t wr => ∃ k : Nat, k ≤ n ∧ t = .int .i64 k ∧ Hid (Below w.heap.size w wr) ∧ ∃ ps, Hid (wr.ownsRow w.heap.size 163 2 u k (ps.flatMap cells2)) ∧ Hid (namesP ps = P.take k ∧ optsP ps = opt.take k ∧ ∀ e ∈ ps, e.1 = .nilIface ∨ ∃ t v, e.1 = .iface t v)) (fun _ t _ => n - (intOf t).toNat)
  case atStart => exact ⟨0, Nat.zero_le _, rfl, Lib.hid (Below.refl _ _), [], Lib.hid (World.ownsRow_nil _ _ _ _), Lib.hid ⟨rfl, rfl, fun e h => (by cases h)⟩⟩
  case round =>
    obtain ⟨k, hk, rfl, HB, ps, HU, HN⟩ := hrel
    have hbs := HB.out.size
    by_cases hlt : k < n
    · obtain ⟨ad, rfl, hbk, hc0⟩ := HH.out.at_ hlt
      have hc := (HB.out.cell (p := ad.add k) (by rw [block_of_add]; omega)).trans hc0
      obtain ⟨ad2, rfl, hbk2, hc02⟩ := H2.out.at_ hlt
      have hc2 := (HB.out.cell (p := ad2.add k) (by rw [block_of_add]; omega)).trans hc02
      have hkl : k < P.length := by rw [HL.out]; exact hlt
      have hkl2 : k < opt.length := by rw [HL2.out]; exact hlt
      have e0 : P.getD k ByteArray.empty = P[k] := by simp [hkl]
      have e2 : opt.getD k false = opt[k] := by simp [hkl2]
      rw [e0] at hc
      rw [e2] at hc2
      have E1 := Lib.hid (List.take_succ_eq_append_getElem hkl)
      have E2 := Lib.hid (List.take_succ_eq_append_getElem hkl2)
      clear hc0 hc02 e0 e2
      generalize P[k] = s at *
      generalize opt[k] = b at *
      have hc2' : ∀ O, (wr.alloc O).cell? (ad2.add k) = some (.bool b) := fun O => (World.cell?_alloc_lt wr O _ (by rw [block_of_add]; omega)).trans hc2
      cases b
      · go_wp2_with (at_builtin; refine wpList_append_x _ rfl (.tmp 32) (.tmp 34) 128 rfl w.heap.size 163 i1 _ 2 32 Try.underlying128 hi1 hz1 hsz1 hb1 rfl (by omega) u5 k (ps.flatMap cells2) rfl ((HU.out.alloc _).alloc _) (wr.heap.size + 2) (some ⟨wr.heap.size + 1, 0, none⟩) 1 1 [.nilIface, .string s] rfl (Reads.ofBlock (cs := #[.nilIface, .string s]) (heap_new1 _ _ _) rfl (by omega)) (by simp [Value.oneCell']) (.inr (by omega)) (by unfold maxLen; omega) (by omega) (by simp; omega) (wr.heap.size + 2) (by simp) ?_; intro g2 cap2 w2 hown2 hgrow2 hat2 hlt2)
        have hb2 : Below w.heap.size w w2 := ((HB.out.alloc hbs _).alloc (by simp; omega) _).grown hgrow2 (by simp; omega) (fun j hj => (HU.out.lt j hj).1)
        clear hgrow2 hat2
        go_roundw
        case rel => exact ⟨k + 1, by omega, by go_num, Lib.hid hb2, ps ++ [(.nilIface, s)], Lib.hid (by rw [List.flatMap_append]; exact hown2), Lib.hid ⟨by rw [E1.out]; simp [namesP, ← HN.out.1], by rw [E2.out]; simp [optsP, optOf, ← HN.out.2.1], fun e he => by
          rcases List.mem_append.1 he with he | he
          · exact HN.out.2.2 e he
          · rw [List.mem_singleton] at he
            subst he
            exact .inl rfl⟩⟩
        case measure => simp [intOf]; omega
      · go_wp2_with (at_builtin; refine wpList_append_x _ rfl (.tmp 32) (.tmp 34) 128 rfl w.heap.size 163 i1 _ 2 32 Try.underlying128 hi1 hz1 hsz1 hb1 rfl (by omega) u5 k (ps.flatMap cells2) rfl (((HU.out.alloc _).alloc _).alloc _) (wr.heap.size + 3) (some ⟨wr.heap.size + 2, 0, none⟩) 1 1 [.iface 168 (.pointer (some ⟨wr.heap.size + 1, 0, none⟩)), .string s] rfl (Reads.ofBlock (cs := #[.iface 168 (.pointer (some ⟨wr.heap.size + 1, 0, none⟩)), .string s]) (heap_new2 _ _ _ _) rfl (by omega)) (by simp [Value.oneCell']) (.inr (by omega)) (by unfold maxLen; omega) (by omega) (by simp; omega) (wr.heap.size + 3) (by simp) ?_; intro g2 cap2 w2 hown2 hgrow2 hat2 hlt2)
        have hb2 : Below w.heap.size w w2 := (((HB.out.alloc hbs _).alloc (by simp; omega) _).alloc (by simp; omega) _).grown hgrow2 (by simp; omega) (fun j hj => (HU.out.lt j hj).1)
        clear hgrow2 hat2
        go_roundw
        case rel => exact ⟨k + 1, by omega, by go_num, Lib.hid hb2, ps ++ [(.iface 168 (.pointer (some ⟨wr.heap.size + 1, 0, none⟩)), s)], Lib.hid (by rw [List.flatMap_append]; exact hown2), Lib.hid ⟨by rw [E1.out]; simp [namesP, ← HN.out.1], by rw [E2.out]; simp [optsP, optOf, ← HN.out.2.1], fun e he => by
          rcases List.mem_append.1 he with he | he
          · exact HN.out.2.2 e he
          · rw [List.mem_singleton] at he
            subst he
            exact .inr ⟨_, _, rfl⟩⟩⟩
        case measure => simp [intOf]; omega
    · obtain rfl : k = n := by omega
      obtain ⟨Ar, cr, rfl⟩ : ∃ Ar cr, u5 = .slice Ar k cr := by
        rcases HU.out.2 with ⟨rfl, h0⟩ | ⟨g, cap, cur, rfl, _⟩
        · exact ⟨none, 0, by rw [h0]⟩
        · exact ⟨_, cap, rfl⟩
      have hname : namesP ps = P := by rw [HN.out.1]; exact List.take_of_length_le (by rw [HL.out]; omega)
      have hopt : optsP ps = opt := by rw [HN.out.2.1]; exact List.take_of_length_le (by rw [HL2.out]; omega)
      have hlen : ps.length = k := by
        have := congrArg List.length hname
        simp [namesP] at this
        rw [this, HL.out]
      have HNM := Lib.hid (And.intro hname hopt)
      have HLN := Lib.hid hlen
      clear hname hopt hlen
      go_wp2
      go_ret
      refine ⟨⟨Ar, cr, ps, by rw [HL.out]; rfl, ?_, HNM.out.1, HNM.out.2, HN.out.2.2⟩, HB.out⟩
      rw [HL.out]
      exact ⟨HLN.out, Reads.of_own HU.out⟩

theorem partArgs_any (A : Option Addr) (n c : Nat) (P : List ByteArray) (A2 : Option Addr) (c2 : Nat) (opt : List Bool) (pos : Nat) (A3 : Option Addr) (n3 c3 : Nat) (N : List ByteArray) (B : Nat) (w : World) (h : Strs w B A n P) (h2 : Bools w B A2 n opt) (h3 : Strs w B A3 n3 N) (hB : B ≤ w.heap.size) (hn : n ≤ 100) (hn3 : n3 ≤ 100) (hpos : pos ≤ 200)
    (hsp : ∀ s ∈ P, s.size ≤ maxLen) (hsn : ∀ s ∈ N, s.size ≤ maxLen) (r : Bool) (hr : callOk P opt pos N = r) :
    Calls Try.prog 42 #[.slice A n c, .slice A2 n c2, .int .i64 (pos : Int), .slice A3 n3 c3] w (CkPost r w) := by
  have H1 := Lib.hid h
  have H2 := Lib.hid h2
  have H3 := Lib.hid h3
  have HR := Lib.hid hr
  have HSP := Lib.hid hsp
  have HSN := Lib.hid hsn
  clear h h2 h3 hr hsp hsn
  go_enter Try.func42, Try.ntmps42
  go_wp2_with fail
  have hb0 : Below w.heap.size w (w.alloc (.cells #[.nilIface, .map none, .map none, .pointer none, .pointer none, .pointer none, .pointer none, .slice none 0 0, .int .i64 0, .int .i64 0, .nilFunc, .nilFunc] 122)) := (Below.refl _ _).alloc (Nat.le_refl _) _
  have hib := Blk.new w 122 #[.nilIface, .map none, .map none, .pointer none, .pointer none, .pointer none, .pointer none, .slice none 0 0, .int .i64 0, .int .i64 0, .nilFunc, .nilFunc]
  have HB0 := Lib.hid hb0
  have HIB := Lib.hid hib
  clear hb0 hib
  generalize w.alloc (.cells #[.nilIface, .map none, .map none, .pointer none, .pointer none, .pointer none, .pointer none, .slice none 0 0, .int .i64 0, .int .i64 0, .nilFunc, .nilFunc] 122) = w0 at *
  refine (arguments_any pos A3 n3 c3 N B w0 (Reads.below H3.out (HB0.out.mono hB)) (Nat.le_trans hB HB0.out.size) hpos hn3).mono ?_
  rintro e w1 ⟨⟨Ap, cp, An, cn, ns, rfl, hp1, hnn, hdn⟩, hb1⟩
  have hs0 := HIB.out.lt
  have HB1 := Lib.hid (HB0.out.trans (hb1.mono HB0.out.size))
  have HIB1 := Lib.hid (HIB.out.below hb1 hs0)
  have HP1 := Lib.hid hp1
  have HNN := Lib.hid hnn
  have HDN := Lib.hid hdn
  have hs1 := HIB1.out.lt
  clear hp1 hnn hdn hb1
  go_wp2_with fail
  refine (params_any A n c P A2 c2 opt B w1 (Reads.below H1.out (HB1.out.mono hB)) (Reads.below H2.out (HB1.out.mono hB)) (Nat.le_trans hB HB1.out.size) hn).mono ?_
  rintro e w2 ⟨⟨Aq, cq, ps, rfl, hp2, hpn, hpo, hpd⟩, hb2⟩
  have HB2 := Lib.hid (HB1.out.trans (hb2.mono HB1.out.size))
  have HIB2 := Lib.hid (HIB1.out.below hb2 hs1)
  have HP12 := Lib.hid ((HP1.out.below hb2 (Nat.le_refl _)).more hb2.size)
  have HP2 := Lib.hid hp2
  have HPN := Lib.hid hpn
  have HPO := Lib.hid hpo
  have HPD := Lib.hid hpd
  have hs2 := HIB2.out.lt
  have hPl : P.length ≤ 100 := by rw [Strs.len H1.out]; exact hn
  have hNl : N.length ≤ 100 := by rw [Strs.len H3.out]; exact hn3
  clear hp2 hpn hpo hpd hb2 HP1
  go_wp2_with fail
  refine (check_any w.heap.size Ap pos cp An N.length cn Aq P.length cq ps ns w2 HP2.out HP12.out hPl hNl hpos HPD.out ?_ ?_ HDN.out (HIB2.out.cell 5) (HIB2.out.cell 7) hs2 r ?_).mono ?_
  · intro e he
    exact HSP.out _ (by rw [← HPN.out]; exact List.mem_map.2 ⟨e, he, rfl⟩)
  · intro e he
    exact HSN.out _ (by rw [← HNN.out]; exact List.mem_map.2 ⟨e, he, rfl⟩)
  · rw [HPN.out, HPO.out, HNN.out]; exact HR.out
  rintro e w3 ⟨⟨he1, he2⟩, hb3⟩
  have HB3 := Lib.hid (HB2.out.trans (hb3.mono HB2.out.size))
  clear hb3
  cases r
  · obtain ⟨t, u, rfl⟩ := he2 rfl
    go_wp2_with fail
    go_ret
    exact ⟨⟨fun h => (by cases h), fun _ => ⟨_, _, rfl⟩⟩, HB3.out⟩
  · obtain rfl := he1 rfl
    go_wp2_with fail
    go_ret
    exact ⟨⟨fun _ => rfl, fun h => (by cases h)⟩, HB3.out⟩

theorem implArgs_any (A : Option Addr) (n c : Nat) (P : List ByteArray) (A2 : Option Addr) (c2 : Nat) (opt : List Bool) (pos : Nat) (A3 : Option Addr) (n3 c3 : Nat) (N : List ByteArray) (B : Nat) (w : World) (h : Strs w B A n P) (h2 : Bools w B A2 n opt) (h3 : Strs w B A3 n3 N) (hB : B ≤ w.heap.size) (hn : n ≤ 100) (hn3 : n3 ≤ 100) (hpos : pos ≤ 200)
    (hsp : ∀ s ∈ P, s.size ≤ maxLen) (hsn : ∀ s ∈ N, s.size ≤ maxLen) (r : Bool) (hr : callOk P opt pos N = r) :
    Calls Try.prog 27 #[.slice A n c, .slice A2 n c2, .int .i64 (pos : Int), .slice A3 n3 c3] w fun e w' => e = .returned (.bool r) ∧ Below w.heap.size w w' := by
  have K := Lib.hid (partArgs_any A n c P A2 c2 opt pos A3 n3 c3 N B w h h2 h3 hB hn hn3 hpos hsp hsn r hr)
  clear h h2 h3 hr hsp hsn
  go_enter Try.func27, Try.ntmps27
  go_wp2_with fail
  refine K.out.mono ?_
  rintro e w1 ⟨⟨he1, he2⟩, hb⟩
  have HB := Lib.hid hb
  clear hb
  cases r
  · obtain ⟨t, u, rfl⟩ := he2 rfl
    go_wp2_with fail
    go_ret
    exact ⟨rfl, HB.out⟩
  · obtain rfl := he1 rfl
    go_wp2_with fail
    go_ret
    exact ⟨rfl, HB.out⟩
theorem allNamed_any (A : Option Addr) (n c : Nat) (P : List ByteArray) (A2 : Option Addr) (c2 : Nat) (opt : List Bool) (B : Nat) (w : World) (h : Strs w B A n P) (h2 : Bools w B A2 n opt) (hB : B ≤ w.heap.size) (hn : n ≤ 100)
    (hsp : ∀ s ∈ P, s.size ≤ maxLen) (hnd : P.Nodup) :
    Calls Try.prog 28 #[.slice A n c, .slice A2 n c2] w fun e w' => e = .returned (.bool true) ∧ Below w.heap.size w w' := by
  have K := Lib.hid (implArgs_any A n c P A2 c2 opt 0 A n c P B w h h2 h hB hn hn (by omega) hsp hsp true (callOk_all P opt hnd))
  clear h h2 hsp hnd
  go_enter Try.func28, Try.ntmps28
  go_wp2_with fail
  refine K.out.mono ?_
  rintro e w1 ⟨rfl, hb⟩
  have HB := Lib.hid hb
  clear hb
  go_wp2_with fail
  go_ret
  exact ⟨rfl, HB.out⟩
end Go.Proofs.Ythinfliplpjdjaa
