/-
  PartStack's small callees, and the plain side of its loop.
-/
import Derived.Test.YtkbjcpeogecbgaaStkRows
import Derived.Test.YtkbjcpeogecbgaaStkLoc
import Derived.Test.YtkbjcpeogecbgaaStkPop
import Derived.Test.YtkbjcpeogecbgaaFlo
import Derived.Laws.FloatArith
namespace Go.Proofs.Ytkbjcpeogecbgaa
open Go.RowKit Go.Maps Ieee

theorem mkStack_any (n : Int) (w : World) : Calls Try.prog 11 #[.int .i64 n] w fun e w' => e = .returned (.agg #[.pointer none, .pointer none, .slice none 0 0, .int .i64 0, .int .i64 n]) ∧ Below w.heap.size w w' := by
  go_enter Try.func11, Try.ntmps11
  go_wp2
  refine bodyPost_ret (v := .agg #[.pointer none, .pointer none, .slice none 0 0, .int .i64 0, .int .i64 n]) ?_ rfl ⟨rfl, ?_⟩
  · simp [results, Try.results11, go_sem]
  · exact (Below.refl _ _).alloc (Nat.le_refl _) _
theorem mkLoc_any (s : ByteArray) (w : World) : Calls Try.prog 12 #[.string s] w fun e w' => e = .returned (.agg #[.pointer none, .string s, .int .i64 0, .int .i64 0, .int .i64 0, .int .i64 0]) ∧ Below w.heap.size w w' := by
  go_enter Try.func12, Try.ntmps12
  go_wp2
  refine bodyPost_ret (v := .agg #[.pointer none, .string s, .int .i64 0, .int .i64 0, .int .i64 0, .int .i64 0]) ?_ rfl ⟨rfl, ?_⟩
  · simp [results, Try.results12, go_sem]
  · exact (Below.refl _ _).alloc (Nat.le_refl _) _
theorem conv_back (i : Nat) (hi : i ≤ 65535) : floatToIntVal .f64 (floatOfInt .f64 (i : Int)) .i64 = some (i : Int) := by
  obtain ⟨h1, h2⟩ := int_fin (i : Int) (by omega) (by omega)
  have e : floatOfInt .f64 (i : Int) = double.nearest (decide ((i : Int) < 0)) (i : Int).natAbs 0 := rfl
  rw [← e] at h1 h2
  generalize floatOfInt .f64 (i : Int) = x at *
  have h4 := toInt_whole h1 (i : Int) h2
  unfold floatToIntVal
  have e : FloatKind.f64.decode x = double.read x := rfl
  rw [e, h4]
  have m1 : IntKind.i64.min = -9223372036854775808 := by decide
  have m2 : IntKind.i64.max = 9223372036854775807 := by decide
  rw [m1, m2]
  simp only
  rw [if_pos (by omega)]
theorem trimFrom_bd (F : List (Bool × Bool)) (c : Int) : ∀ q, q ≤ F.length → (trimFrom F c q).1.length ≤ F.length ∧ c - 1 ≤ (trimFrom F c q).2 ∧ (trimFrom F c q).2 ≤ c
  | 0, _ => by simp only [trimFrom]; omega
  | q + 1, h => by
    rw [trimFrom]
    split
    · split
      · simp only [List.length_take]; omega
      · simp only; omega
    · exact trimFrom_bd F c q (by omega)
theorem stepS_bd (s : St) (x : SS) : (stepS s x).1.length ≤ s.1.length + 1 ∧ s.2 - 1 ≤ (stepS s x).2 ∧ (stepS s x).2 ≤ s.2 + 1 := by
  unfold stepS
  split
  · simp; omega
  · split
    · simp; omega
    · split
      · split
        · unfold popS
          simp only [List.length_take]
          split <;> omega
        · omega
      · split
        · have := trimFrom_bd s.1 s.2 s.1.length (Nat.le_refl _)
          omega
        · omega
theorem runS_bd (l : List SS) : ∀ k, (runS (l.take k)).1.length ≤ k ∧ -(k : Int) ≤ (runS (l.take k)).2 ∧ (runS (l.take k)).2 ≤ k
  | 0 => by simp [runS]
  | k + 1 => by
    have ih := runS_bd l k
    rcases Nat.lt_or_ge k l.length with h | h
    · have e : l.take (k + 1) = l.take k ++ [l[k]] := List.take_succ_eq_append_getElem h
      rw [e, runS_snoc]
      have := stepS_bd (runS (l.take k)) l[k]
      omega
    · rw [List.take_of_length_le (by omega)]
      rw [List.take_of_length_le (by omega)] at ih
      omega
def lensV (l : List SS) (k : Nat) : List Value := (List.range k).map fun i => .int .i64 ((runS (l.take (i + 1))).1.length : Int)
def callsV (l : List SS) (k : Nat) : List Value := (List.range k).map fun i => .int .i64 (runS (l.take (i + 1))).2
theorem lensV_succ (l : List SS) (k : Nat) : lensV l (k + 1) = lensV l k ++ [.int .i64 ((runS (l.take (k + 1))).1.length : Int)] := by
  simp [lensV, List.range_succ]
theorem callsV_succ (l : List SS) (k : Nat) : callsV l (k + 1) = callsV l k ++ [.int .i64 (runS (l.take (k + 1))).2] := by
  simp [callsV, List.range_succ]
def ssOf (e : SE) : SS := (e.k, e.num, e.tr)
def OkS (e : SE) : Prop := 1 ≤ e.k ∧ e.k ≤ 5 ∧ (e.k = 3 → 1 ≤ e.num) ∧ (e.k = 1 ∨ e.k = 2 → ∃ i : Nat, e.num = (i : Int) ∧ i ≤ 65535) ∧ e.n ≤ 2147483647

/-- What stands at the head of each round. -/
def PI (w wr : World) (bS : Nat) (l : List SS) (k : Nat) (u2 u3 u4 : Value) : Prop :=
  ∃ t1 t2 l0, SI wr w.heap.size bS (runS (l.take k)).1 (runS (l.take k)).2 t1 t2 ∧ M3 wr wr w.heap.size [] u2 k l0 u3 k (lensV l k) u4 k (callsV l k) ∧ Below w.heap.size w wr
/-- What stands ahead of a round's last statement. -/
def PC (w wr wx : World) (bS : Nat) (l : List SS) (k : Nat) : Prop :=
  ∃ t1 t2, SI wx w.heap.size bS (runS (l.take (k + 1))).1 (runS (l.take (k + 1))).2 t1 t2 ∧ Below w.heap.size wr wx ∧ KeptT wr wx
theorem pc_mk {w wr wx : World} {bS : Nat} {l : List SS} {k : Nat} {X : St} {t1 t2 : Option Addr} (hr : runS (l.take (k + 1)) = X) (hm : SI wx w.heap.size bS X.1 X.2 t1 t2) (hb : Below w.heap.size wr wx) (hk : KeptT wr wx) : PC w wr wx bS l k :=
  ⟨t1, t2, by rw [hr]; exact hm, hb, hk⟩
theorem run_toNum (v : Value) (x : TypeId) (w : World) : (Instr.typeAssert (.iface 77 v) x 77 false).run Try.prog w = .ok v w := by
  simp [Instr.typeAssert, run_underlying Try.underlying77]
theorem run_back (i : Nat) (hi : i ≤ 65535) (w : World) : (convert 74 3 (.float .f64 (floatOfInt .f64 (i : Int)))).run Try.prog w = .ok (.int .i64 (i : Int)) w :=
  run_convert_float_int w _ _ _ _ _ _ (by kernel_rfl) Try.underlying3 (conv_back i hi)
def PtPost (l : List SS) (n : Nat) (w : World) (e : Ending) (w' : World) : Prop :=
  (∃ A0 A1 A2 c0 c1 c2, e = .returned (.tuple #[.slice A0 n c0, .slice A1 n c1, .slice A2 n c2]) ∧ Reads w' w'.heap.size 1 A1 n (lensV l n) ∧ Reads w' w'.heap.size 1 A2 n (callsV l n)) ∧ Below w.heap.size w w'
theorem M3.keptT {w0 w w' : World} {base n0 n1 n2 : Nat} {v0 v1 v2 : Value} {l0 l1 l2 : List Value} (h : M3 w0 w base [] v0 n0 l0 v1 n1 l1 v2 n2 l2) (hk : KeptT w w') : M3 w' w' base [] v0 n0 l0 v1 n1 l1 v2 n2 l2 :=
  ⟨KeptI.refl _, Below.refl _ _, Nat.le_trans h.bw hk.1, own_keptT h.o0 hk (by decide) (by decide), own_keptT h.o1 hk (by decide) (by decide), own_keptT h.o2 hk (by decide) (by decide), h.d01, h.d02, h.d12, fun _ _ hx => by cases hx⟩
theorem own_form {w : World} {base e n : Nat} {v : Value} {xs : List Value} (h : w.ownsRow base e 1 v n xs) : ∃ A c, v = .slice A n c := by
  rcases h.2 with ⟨rfl, h0⟩ | ⟨g, cap, cur, rfl, _⟩
  · exact ⟨none, 0, by rw [h0]⟩
  · exact ⟨_, cap, rfl⟩
end Go.Proofs.Ytkbjcpeogecbgaa
