/-
  formatter.CommaFix and impl.CommaFixed: what stands ahead of a last comma, whether that is there, and what stands ahead of the closing bracket.
-/
import Derived.Test.YthinfliplpjdjaaFix
namespace Go.Proofs.Ythinfliplpjdjaa
open Go.RowKit

theorem Fix.grow {w : World} {base pl pc pe : Nat} {c : Bool} {V1 V2 : Value} {fl fe : List CE} (h : Fix w base pl pc pe c V1 V2 fl fe) (o : Obj) : Fix (w.alloc o) base pl pc pe c V1 V2 fl fe :=
  h.below ((Below.refl _ _).alloc (Nat.le_refl _) _)

set_option maxRecDepth 100000 in
theorem commaFix_any (w : World) (base pl pc pe : Nat) (c bl be : Bool) (A1 A2 : Option Addr) (n1 c1 n2 c2 : Nat) (fl fe : List CE) (h : Fix w base pl pc pe c (.slice A1 n1 c1) (.slice A2 n2 c2) fl fe) (hne : pe ≠ pl) (hpl : base ≤ pl) (hpe : base ≤ pe) (hpc : base ≤ pc)
    (hsep : (Value.slice A1 n1 c1).ownBlock = none ∨ (Value.slice A1 n1 c1).ownBlock ≠ (Value.slice A2 n2 c2).ownBlock) (hbase : base ≤ w.heap.size) (hn1 : n1 ≤ 1000000) (hn2 : n2 ≤ 1000000)
    (hd : cleanB fl = false → ∀ b0, fe[0]? = some b0 → fl ≠ [] → b0.k ≠ 2) (t1 : Tame fl) (t2 : Tame fe) (hbl : breaksB (fl.map CE.say) = bl) (hbe : breaksB (fe.map CE.say) = be) :
    Calls Try.prog 47 #[.pointer (some ⟨pl, 0, none⟩), .pointer (some ⟨pc, 0, none⟩), .pointer (some ⟨pe, 0, none⟩)] w
      (FixRet w base pl pc pe (bl || be) (staysL c bl be fl) (staysE c bl be fl fe)) := by
  have HH := Lib.hid h
  have HD := Lib.hid hd
  have T1 := Lib.hid t1
  have T2 := Lib.hid t2
  have SP := Lib.hid hsep
  have NE := Lib.hid hne
  have BL := Lib.hid hbl
  have BE := Lib.hid hbe
  clear h hd t1 t2 hsep hne hbl hbe
  go_enter Try.func47, Try.ntmps47
  go_wp2_with fail
  refine (fix_any _ _ base pl pc pe c bl be A1 A2 n1 c1 n2 c2 fl fe (HH.out.grow _) NE.out hpl hpe hpc SP.out (by simp; omega) hn1 hn2 HD.out T1.out T2.out BL.out BE.out).mono ?_
  rintro e1 w1 ⟨rfl, b1, o1⟩
  have O1 := Lib.hid o1
  have B1 := Lib.hid b1
  clear o1 b1
  go_wp2_with fail
  go_end0
  exact ⟨rfl, ((Below.refl _ _).alloc hbase _).trans B1.out, O1.out⟩

/-- What CommaFixed answers of what both lists say. -/
def fixL (c : Bool) (a b : List Say) : List Say := if goes c (breaksB a) (breaksB b) = true then [] else a
def fixE (c : Bool) (a b : List Say) : List Say := if goes c (breaksB a) (breaksB b) = true then concatS a b else b
def FixedPost (w : World) (c : Bool) (a b : List Say) (e : Ending) (w' : World) : Prop :=
  ∃ v1 v2 e1 e2, e = .returned (.tuple #[v1, .bool (breaksB a || breaksB b), v2, .bool true]) ∧ Elo w' w.heap.size v1 e1 ∧ Elo w' w.heap.size v2 e2 ∧ e1.map CE.say = fixL c a b ∧ e2.map CE.say = fixE c a b ∧ Below w.heap.size w w'

theorem stays_small {c bl be : Bool} {f1 f2 : List CE} (h1 : ∀ e ∈ f1, e.n ≤ 2147483647) (h2 : ∀ e ∈ f2, e.n ≤ 2147483647) (h3 : ∀ e ∈ concatC f1 f2, e.n ≤ 2147483647) :
    (∀ e ∈ staysL c bl be f1, e.n ≤ 2147483647) ∧ ∀ e ∈ staysE c bl be f1 f2, e.n ≤ 2147483647 := by
  unfold staysL staysE
  split
  · exact ⟨fun e he => (by cases he), h3⟩
  · exact ⟨h1, h2⟩
theorem stays_len {c bl be : Bool} {f1 f2 : List CE} {n : Nat} (h1 : f1.length ≤ n) (h2 : f2.length ≤ n) :
    (staysL c bl be f1).length ≤ 2 * n + 1 ∧ (staysE c bl be f1 f2).length ≤ 2 * n + 1 := by
  unfold staysL staysE
  have := concatC_len f1 f2
  split
  · exact ⟨by simp, by omega⟩
  · exact ⟨by omega, by omega⟩
theorem stays_say {c : Bool} {f1 f2 a b : List CE} (h1 : f1.map CE.say = a.map CE.say) (h2 : f2.map CE.say = b.map CE.say) (hl : ∀ e ∈ f2, e.cs.length = e.n) :
    (staysL c (breaksB (a.map CE.say)) (breaksB (b.map CE.say)) f1).map CE.say = fixL c (a.map CE.say) (b.map CE.say) ∧ (staysE c (breaksB (a.map CE.say)) (breaksB (b.map CE.say)) f1 f2).map CE.say = fixE c (a.map CE.say) (b.map CE.say) := by
  unfold staysL staysE fixL fixE
  split
  · exact ⟨rfl, by rw [concat_say f1 f2 hl, h1, h2]⟩
  · exact ⟨h1, h2⟩

theorem results_tmp4 {fn : Func} {t u v x : Tmp} (h : fn.results = #[.tmp t, .tmp u, .tmp v, .tmp x]) (tmps : Array Value) (P : Program) (w : World) :
    (results fn tmps).run P w = .ok (.tuple #[tmps.getD t undef, tmps.getD u undef, tmps.getD v undef, tmps.getD x undef]) w := by
  simp [results, h]
theorem FodR.below {w w' : World} {B : Nat} {A : Option Addr} {n : Nat} {es : List CE} (h : FodR w B A n es) (hb : Below B w w') : FodR w' B A n es :=
  ⟨h.1, Reads.below h.2.1 hb, fun e he => Reads.below (h.2.2 e he) hb⟩
theorem keepHeld3 {w w' : World} (hb : Below w.heap.size w w') {p0 p1 p2 : Addr} {u0 u1 u2 : Value} (c0 : w.cell? p0 = some u0) (c1 : w.cell? p1 = some u1) (c2 : w.cell? p2 = some u2) :
    Below w.heap.size w w' ∧ w'.cell? p0 = some u0 ∧ w'.cell? p1 = some u1 ∧ w'.cell? p2 = some u2 :=
  have k : ∀ {p : Addr} {u : Value}, w.cell? p = some u → w'.cell? p = some u := fun {p} {_} h => (hb.cell (World.block_lt_of_cell? w p h)).trans h
  ⟨hb, k c0, k c1, k c2⟩

set_option maxRecDepth 100000 in
set_option maxHeartbeats 3200000 in
theorem commaFixed_any (c : Bool) (A1 A2 : Option Addr) (n1 c1 n2 c2 : Nat) (a b : List CE) (B : Nat) (w : World) (h1 : Els w B A1 n1 a) (h2 : Els w B A2 n2 b) (hB : B ≤ w.heap.size) (hn1 : n1 ≤ 1000) (hn2 : n2 ≤ 1000)
    (g1 : Good a) (g2 : Good b) (hd : cleanS (a.map CE.say) = false → ∀ b0, b[0]? = some b0 → a ≠ [] → b0.k ≠ 2) (m1 : ∀ e ∈ a, e.n ≤ 1000000) (m2 : ∀ e ∈ b, e.n ≤ 1000000) :
    Calls Try.prog 32 #[.slice A1 n1 c1, .bool c, .slice A2 n2 c2] w (FixedPost w c (a.map CE.say) (b.map CE.say)) := by
  have H1 := Lib.hid h1
  have H2 := Lib.hid h2
  have G1 := Lib.hid g1
  have G2 := Lib.hid g2
  have HD := Lib.hid hd
  have M1 := Lib.hid m1
  have M2 := Lib.hid m2
  clear h1 h2 g1 g2 hd m1 m2
  go_enter Try.func32, Try.ntmps32
  go_wp2_with fail
  have k0 : Blk (w.alloc (.cells #[.bool c] 4)) w.heap.size 4 #[.bool c] := Blk.new w _ _
  have a0 : Below w.heap.size w (w.alloc (.cells #[.bool c] 4)) := (Below.refl _ _).alloc (Nat.le_refl _) _
  have K0 := Lib.hid k0
  have A0 := Lib.hid a0
  clear k0 a0
  refine (fodder_any A1 n1 c1 a B _ (H1.out.below (A0.out.mono hB)) (by simp; omega) (by omega) (fun e he => ⟨(G1.out e he).1, (G1.out e he).2.1⟩) (fun e he => by have := M1.out e he; omega)).mono ?_
  rintro e1 w1 ⟨v1, f1, rfl, hb1, hf1, hs1⟩
  obtain ⟨P1, l1, j1, rfl⟩ := own_slice hf1.1
  have K1 := Lib.hid (K0.out.below hb1 K0.out.lt)
  have B1 := Lib.hid (A0.out.trans (hb1.mono A0.out.size))
  have F1 := Lib.hid (hf1.base_le A0.out.size)
  have S1 := Lib.hid hs1
  clear hb1 hf1 hs1
  go_wp2_with fail
  have kA : Blk (w1.alloc (.cells #[.slice P1 l1 j1] 58)) w1.heap.size 58 #[.slice P1 l1 j1] := Blk.new w1 _ _
  have kC : Blk (w1.alloc (.cells #[.slice P1 l1 j1] 58)) w.heap.size 4 #[.bool c] := K1.out.alloc _
  have fA : Fod (w1.alloc (.cells #[.slice P1 l1 j1] 58)) w.heap.size (.slice P1 l1 j1) f1 := F1.out.below ((Below.refl _ _).alloc (Nat.le_refl _) _)
  have bA : Below w.heap.size w (w1.alloc (.cells #[.slice P1 l1 j1] 58)) := B1.out.alloc B1.out.size _
  have sA : w1.heap.size < (w1.alloc (.cells #[.slice P1 l1 j1] 58)).heap.size := kA.lt
  generalize hW : w1.alloc (.cells #[.slice P1 l1 j1] 58) = wA at *
  have KA := Lib.hid kA
  have KC := Lib.hid kC
  have FA := Lib.hid fA
  have BA := Lib.hid bA
  clear kA kC fA bA hW
  refine (fodder_any A2 n2 c2 b B _ (H2.out.below (BA.out.mono hB)) (Nat.le_trans hB BA.out.size) (by omega) (fun e he => ⟨(G2.out e he).1, (G2.out e he).2.1⟩) (fun e he => by have := M2.out e he; omega)).mono ?_
  rintro e2 w2 ⟨v2, f2, rfl, hb2, hf2, hs2⟩
  obtain ⟨P2, l2, j2, rfl⟩ := own_slice hf2.1
  have KA2 := Lib.hid (KA.out.below hb2 KA.out.lt)
  have KC2 := Lib.hid (KC.out.below hb2 KC.out.lt)
  have FA2 := Lib.hid (FA.out.below hb2)
  have SEP := Lib.hid (show (Value.slice P1 l1 j1).ownBlock = none ∨ (Value.slice P1 l1 j1).ownBlock ≠ (Value.slice P2 l2 j2).ownBlock from by
    cases hv : (Value.slice P1 l1 j1).ownBlock with
    | none => exact .inl rfl
    | some g =>
      right
      intro h
      have h1 := (FA.out.1.lt g hv).2
      have h2 := (hf2.1.lt g h.symm).1
      omega)
  have B2 := Lib.hid (BA.out.trans (hb2.mono BA.out.size))
  have F2 := Lib.hid (hf2.base_le BA.out.size)
  have S2 := Lib.hid hs2
  have sB := hb2.size
  clear hb2 hf2 hs2
  go_wp2_with fail
  have kE : Blk (w2.alloc (.cells #[.slice P2 l2 j2] 58)) w2.heap.size 58 #[.slice P2 l2 j2] := Blk.new w2 _ _
  have al : Below w2.heap.size w2 (w2.alloc (.cells #[.slice P2 l2 j2] 58)) := (Below.refl _ _).alloc (Nat.le_refl _) _
  have bE : Below w.heap.size w (w2.alloc (.cells #[.slice P2 l2 j2] 58)) := B2.out.alloc B2.out.size _
  have fx : Fix (w2.alloc (.cells #[.slice P2 l2 j2] 58)) w.heap.size w1.heap.size w.heap.size w2.heap.size c (.slice P1 l1 j1) (.slice P2 l2 j2) f1 f2 :=
    ⟨KA2.out.alloc _, KC2.out.alloc _, kE, FA2.out.below al, F2.out.below al⟩
  generalize hW : w2.alloc (.cells #[.slice P2 l2 j2] 58) = wE at *
  have FX := Lib.hid fx
  have BE := Lib.hid bE
  have NE := Lib.hid (show w2.heap.size ≠ w1.heap.size from by omega)
  clear kE al bE fx hW
  have q1 : l1 = n1 ∧ f1.length = n1 := by
    have := congrArg List.length S1.out
    have h2 := F1.out.n_eq
    have h3 := H1.out.1
    simp only [List.length_map] at this
    omega
  have q2 : l2 = n2 ∧ f2.length = n2 := by
    have := congrArg List.length S2.out
    have h2 := F2.out.n_eq
    have h3 := H2.out.1
    simp only [List.length_map] at this
    omega
  have D2 := Lib.hid (show cleanB f1 = false → ∀ b0, f2[0]? = some b0 → f1 ≠ [] → b0.k ≠ 2 from by
    intro hc b0 hb0 hne
    rw [clean_say, S1.out] at hc
    have h0 : (f2.map CE.say)[0]? = some b0.say := by rw [List.getElem?_map, hb0]; rfl
    rw [S2.out, List.getElem?_map] at h0
    cases hbb : b[0]? with
    | none => rw [hbb] at h0; cases h0
    | some x =>
      rw [hbb] at h0
      simp only [Option.map_some, Option.some.injEq, CE.say, Prod.mk.injEq] at h0
      have := HD.out hc x hbb (fun ha => hne (by
        have := S1.out
        rw [ha] at this
        simpa using this))
      rw [← h0.1]
      exact this)
  have hz1 := B1.out.size
  have hz2 := B2.out.size
  go_wp2_with fail
  refine (commaFix_any _ w.heap.size w1.heap.size w.heap.size w2.heap.size c _ _ P1 P2 l1 j1 l2 j2 f1 f2 FX.out NE.out hz1 hz2 (Nat.le_refl _) SEP.out BE.out.size (by omega) (by omega) D2.out (tame_of S1.out F1.out.len G1.out) (tame_of S2.out F2.out.len G2.out) (congrArg breaksB S1.out) (congrArg breaksB S2.out)).mono ?_
  rintro e3 w3 ⟨rfl, b3, X1, y1, z1, X2, y2, z2, kl, kc, ke, r1, r2⟩
  have SS := Lib.hid (stays_say (c := c) S1.out S2.out F2.out.len)
  have SM := Lib.hid (stays_small (c := c) (bl := breaksB (a.map CE.say)) (be := breaksB (b.map CE.say)) (say_mem_len S1.out F1.out.len (fun e he => by have := M1.out e he; omega) (fun e he => (H1.out.2.2 e he).len)) (say_mem_len S2.out F2.out.len (fun e he => by have := M2.out e he; omega) (fun e he => (H2.out.2.2 e he).len)) (concat_small H1.out.1 H2.out.1 S1.out S2.out F1.out.len F2.out.len M1.out M2.out (fun e he => (H1.out.2.2 e he).len) (fun e he => (H2.out.2.2 e he).len)))
  have lens := stays_len (c := c) (bl := breaksB (a.map CE.say)) (be := breaksB (b.map CE.say)) (f1 := f1) (f2 := f2) (n := 1000) (by omega) (by omega)
  generalize staysL c (breaksB (a.map CE.say)) (breaksB (b.map CE.say)) f1 = s1 at *
  generalize staysE c (breaksB (a.map CE.say)) (breaksB (b.map CE.say)) f1 f2 = s2 at *
  have ly1 : y1 ≤ 2147483647 := by have := r1.1; omega
  have ly2 : y2 ≤ 2147483647 := by have := r2.1; omega
  have C1 : w3.cell? ⟨w1.heap.size, 0, none⟩ = some (.slice X1 y1 z1) := kl.cell 0
  have C2 : w3.cell? ⟨w.heap.size, 0, none⟩ = some (.bool (breaksB (a.map CE.say) || breaksB (b.map CE.say))) := kc.cell 0
  have C3 : w3.cell? ⟨w2.heap.size, 0, none⟩ = some (.slice X2 y2 z2) := ke.cell 0
  have R1 := Lib.hid r1
  have R2 := Lib.hid r2
  have B3 := Lib.hid (BE.out.trans b3)
  clear b3 kl kc ke r1 r2 lens q1 q2
  go_wp2_with fail
  go_region_held3 (fun w' => Below w3.heap.size w3 w' ∧ w'.cell? ⟨w1.heap.size, 0, none⟩ = some (.slice X1 y1 z1) ∧ w'.cell? ⟨w.heap.size, 0, none⟩ = some (.bool (breaksB (a.map CE.say) || breaksB (b.map CE.say))) ∧ w'.cell? ⟨w2.heap.size, 0, none⟩ = some (.slice X2 y2 z2))
    (first
      | (exact keepHeld3 (Below.refl _ _).drew C1 C2 C3)
      | (exact keepHeld3 hk5 C1 C2 C3)
      | (exact keepHeld3 hk4 C1 C2 C3))
    (first
      | (go_at_call 36; first
          | (rw [show (#[Value.slice X1 y1 z1] : Array Value) = #[Value.slice X1 y1 z1] from rfl]; refine Calls.mono (elements_any X1 y1 z1 s1 w3.heap.size _ (FodR.below R1.out hk4) hk4.size ly1 SM.out.1) ?_; rintro e5 w5 ⟨u1, t1, rfl, hb5, he5, hs5⟩; have hk5 : Below w3.heap.size w3 w5 := hk4.trans (hb5.mono hk4.size))
          | (rw [show (#[Value.slice X2 y2 z2] : Array Value) = #[Value.slice X2 y2 z2] from rfl]; refine Calls.mono (elements_any X2 y2 z2 s2 w3.heap.size _ (FodR.below R2.out hk4) hk4.size ly2 SM.out.2) ?_; rintro e5 w5 ⟨u2, t2, rfl, hb5, he5, hs5⟩; have hk5 : Below w3.heap.size w3 w5 := hk4.trans (hb5.mono hk4.size))
          | (rw [show (#[Value.slice X1 y1 z1] : Array Value) = #[Value.slice X1 y1 z1] from rfl]; refine Calls.mono (elements_any X1 y1 z1 s1 w3.heap.size _ (FodR.below R1.out (Below.refl w3.heap.size w3).drew) (Below.refl w3.heap.size w3).drew.size ly1 SM.out.1) ?_; rintro e4 w4 ⟨u1, t1, rfl, hb4, he4, hs4⟩; have hk4 : Below w3.heap.size w3 w4 := (Below.refl _ _).drew.trans hb4)
          | (rw [show (#[Value.slice X2 y2 z2] : Array Value) = #[Value.slice X2 y2 z2] from rfl]; refine Calls.mono (elements_any X2 y2 z2 s2 w3.heap.size _ (FodR.below R2.out (Below.refl w3.heap.size w3).drew) (Below.refl w3.heap.size w3).drew.size ly2 SM.out.2) ?_; rintro e4 w4 ⟨u2, t2, rfl, hb4, he4, hs4⟩; have hk4 : Below w3.heap.size w3 w4 := (Below.refl _ _).drew.trans hb4)))
  all_goals
    have L4 := he4.below hb5
    have E4 : Elo w5 w.heap.size _ _ := ⟨own_base L4.1 B3.out.size, fun e he => own_base (L4.2 e he) B3.out.size⟩
    have sz4 := Nat.le_trans B3.out.size hk4.size
    have E5 : Elo w5 w.heap.size _ _ := ⟨own_base he5.1 sz4, fun e he => own_base (he5.2 e he) sz4⟩
    have BB := B3.out.trans (hk5.mono B3.out.size)
    have HE4 := Lib.hid E4
    have HE5 := Lib.hid E5
    have HBB := Lib.hid BB
    have HS4 := Lib.hid hs4
    have HS5 := Lib.hid hs5
    clear L4 E4 E5 BB hs4 hs5 he4 he5 hb4 hb5 hk4 hk5 sz4
    go_wp2_with fail
    (try simp only [Exit.inBlock, Exit.then])
    refine bodyPost_ret (results_tmp4 rfl _ _ _) rfl ?_
  all_goals first
    | exact ⟨_, _, _, _, rfl, HE5.out, HE4.out, HS5.out.trans SS.out.1, HS4.out.trans SS.out.2, HBB.out⟩
    | exact ⟨_, _, _, _, rfl, HE4.out, HE5.out, HS4.out.trans SS.out.1, HS5.out.trans SS.out.2, HBB.out⟩
end Go.Proofs.Ythinfliplpjdjaa
