/-
  zzIndex, zzReplace, zzSplitN: the first place, the text with another one between its parts, the parts.
-/
import Derived.Test.YtijfabahpplimaaFind
import Derived.Test.YtijfabahpplimaaSubstr
namespace Go.Proofs.Ytijfabahpplimaa
open Go.RowKit

def ofIdx : Option Nat → Int
  | none => -1
  | some i => (i : Int)

theorem str_beq (a b : ByteArray) : (a.toList == b.toList) = decide (a = b) := by
  rw [ByteArray.toList_eq, ByteArray.toList_eq]
  by_cases h : a = b
  · subst h; simp
  · have : a.data.toList ≠ b.data.toList := fun e => h (bytes_ext e)
    rw [decide_eq_false h]
    exact beq_eq_false_iff_ne.2 this

set_option maxRecDepth 100000 in
theorem zzIndex_any (s f : ByteArray) (hs : s.size ≤ 2000) (hf : f.size ≤ 2000) (w : World) :
    Calls Try.prog 46 #[.string s, .string f] w fun e w' => e = .returned (.int .i64 (ofIdx (idx s f))) ∧ w = w' := by
  go_enter Try.func46, Try.ntmps46
  go_wp2
  go_loop [5] (fun i => ∃ j b : Nat, j ≤ s.size + 1 ∧ i = .int .i64 j ∧ s.size + 1 ≤ j + b ∧ Hid (idx s f = idxFrom s f b j)) (fun i => s.size + 1 - (intOf i).toNat)
  case atStart => exact ⟨0, s.size + 1, by omega, rfl, by omega, Lib.hid rfl⟩
  case round =>
    obtain ⟨j, b, hj, rfl, hb, HE⟩ := hrel
    by_cases hlt : j + f.size ≤ s.size
    · obtain ⟨b, rfl⟩ : ∃ c, b = c + 1 := ⟨b - 1, by omega⟩
      by_cases he : s.extract j (j + f.size) = f
      · have H2 := Lib.hid (idxFrom_here (b := b) hlt he)
        have q1 : ((s.extract j (j + f.size)).toList == f.toList) = true := by rw [str_beq]; exact decide_eq_true he
        clear he
        go_wp2
        go_ret
        exact ⟨by rw [HE.out, H2.out]; rfl, rfl⟩
      · have H2 := Lib.hid (idxFrom_next (b := b) hlt he)
        have q1 : ((s.extract j (j + f.size)).toList == f.toList) = false := by rw [str_beq]; exact decide_eq_false he
        clear he
        go_wp2
        go_round
        case rel => exact ⟨j + 1, b, by omega, by go_num, by omega, Lib.hid (by rw [HE.out, H2.out])⟩
        case measure => simp [intOf]; omega
    · have H2 := Lib.hid (idxFrom_end (b := b) hlt)
      go_wp2
      go_ret
      exact ⟨by rw [HE.out, H2.out]; rfl, rfl⟩

theorem zzIndex_none (s f : ByteArray) (hs : s.size ≤ 2000) (hf : f.size ≤ 2000) (h : idx s f = none) (w : World) :
    Calls Try.prog 46 #[.string s, .string f] w fun e w' => e = .returned (.int .i64 (-1)) ∧ w = w' := by
  have := zzIndex_any s f hs hf w
  rw [h] at this
  exact this
theorem zzIndex_some (s f : ByteArray) (i : Nat) (hs : s.size ≤ 2000) (hf : f.size ≤ 2000) (h : idx s f = some i) (w : World) :
    Calls Try.prog 46 #[.string s, .string f] w fun e w' => e = .returned (.int .i64 (i : Int)) ∧ w = w' := by
  have := zzIndex_any s f hs hf w
  rw [h] at this
  exact this
def sizeOf_ : Value → Nat
  | .string s => s.size
  | _ => 0
theorem repl_step {s f t out : ByteArray} {i : Nat} (h : idx s f = some i) (h0 : 0 < f.size) : (out ++ (s.extract 0 i ++ t)).size + (rest s f i).size * (t.size + 1) ≤ out.size + s.size * (t.size + 1) := by
  have h1 := (idx_some h).1
  rw [rest_size h1, ByteArray.size_append, ByteArray.size_append, head_size h1]
  have h3 : (s.size - (i + f.size)) * (t.size + 1) + (i + f.size) * (t.size + 1) = s.size * (t.size + 1) := by
    rw [← Nat.add_mul]; congr 1; omega
  have h4 : (i + 1) * (t.size + 1) ≤ (i + f.size) * (t.size + 1) := Nat.mul_le_mul_right _ (by omega)
  have h5 : (i + 1) * (t.size + 1) = i * (t.size + 1) + t.size + 1 := by rw [Nat.add_mul]; omega
  have h6 := Nat.le_mul_of_pos_right i (show 0 < t.size + 1 by omega)
  omega

set_option maxRecDepth 100000 in
set_option maxHeartbeats 1600000 in
theorem zzReplace_any (s f t R : ByteArray) (hs : s.size ≤ 2000) (h0 : 0 < f.size) (hf : f.size ≤ 2000) (ht : t.size ≤ 2000) (hR : repl f t (s.size + 1) ByteArray.empty s = R) (w : World) :
    Calls Try.prog 35 #[.string s, .string f, .string t] w fun e w' => e = .returned (.string R) ∧ w = w' := by
  have HR := Lib.hid hR
  clear hR
  go_enter Try.func35, Try.ntmps35
  go_wp2
  go_loop [0, 7] (fun v o => ∃ (b : Nat) (s' out : ByteArray), v = .string s' ∧ o = .string out ∧ s'.size < b ∧ s'.size ≤ s.size ∧ Hid (repl f t b out s' = R) ∧ Hid (out.size + s'.size * (t.size + 1) ≤ s.size * (t.size + 1))) (fun v _ => sizeOf_ v)
  case atStart => exact ⟨s.size + 1, s, ByteArray.empty, rfl, rfl, by omega, by omega, HR, Lib.hid (by simp)⟩
  case round =>
    obtain ⟨b, s', out, rfl, rfl, hb, hle, HE, HZ⟩ := hrel
    have hout : out.size ≤ 4002000 := by
      have h1 := HZ.out
      have h2 : s.size * (t.size + 1) ≤ 2000 * 2001 := Nat.mul_le_mul hs (by omega)
      omega
    obtain ⟨b, rfl⟩ : ∃ c, b = c + 1 := ⟨b - 1, by omega⟩
    cases hi : idx s' f with
    | none =>
      have H2 := Lib.hid (repl_none (t := t) (out := out) (b := b + 1) hi)
      have K2 := Lib.hid (zzIndex_none s' f (by omega) hf hi)
      clear hi
      go_wp2_with (go_at_call 46; refine (K2.out _).mono ?_; rintro e w' ⟨rfl, rfl⟩)
      go_ret
      exact ⟨by rw [← HE.out, H2.out]; rfl, rfl⟩
    | some i =>
      have h1 := (idx_some hi).1
      have H2 := Lib.hid (repl_some (t := t) (out := out) (b := b) hi)
      have H3 := Lib.hid (rest_size h1)
      have H4 := Lib.hid (repl_step (t := t) (out := out) hi h0)
      have K2 := Lib.hid (zzIndex_some s' f i (by omega) hf hi)
      have H5 := head_size h1
      clear hi
      go_wp2_with (go_at_call 46; refine (K2.out _).mono ?_; rintro e w' ⟨rfl, rfl⟩)
      go_round
      case rel => exact ⟨b, rest s' f i, _, rfl, rfl, by rw [H3.out]; omega, by rw [H3.out]; omega, Lib.hid (by rw [← HE.out, H2.out]), Lib.hid (Nat.le_trans H4.out HZ.out)⟩
      case measure =>
        show (rest s' f i).size < s'.size
        rw [H3.out]; omega

theorem info_str : (Try.prog.info? 9).map (fun i => (i.zero, i.size, i.bytes)) = some (some (.string ByteArray.empty), 1, 16) := by kernel_rfl
def strV (l : List ByteArray) : List Value := l.map Value.string
theorem strV_len (l : List ByteArray) : (strV l).length = l.length := List.length_map _
theorem strV_snoc (l : List ByteArray) (x : ByteArray) : strV (l ++ [x]) = strV l ++ [.string x] := by simp [strV]
def SplPost (l : List ByteArray) (w : World) (e : Ending) (w' : World) : Prop :=
  ∃ v, e = .returned v ∧ w'.ownsRow w.heap.size 9 1 v l.length (strV l) ∧ Below w.heap.size w w'

set_option maxRecDepth 100000 in
set_option maxHeartbeats 1600000 in
theorem zzSplitN_any (s f : ByteArray) (l : List ByteArray) (hs : s.size ≤ 2000) (h0 : 0 < f.size) (hf : f.size ≤ 2000) (hl : parts f (s.size + 1) s = l) (w : World) :
    Calls Try.prog 37 #[.string s, .string f, .int .i64 (-1)] w fun e w' => SplPost l w e w' := by
  have HL := Lib.hid hl
  clear hl
  obtain ⟨i0, hi, hz, hsz, hb⟩ := info_parts info_str
  go_enter Try.func37, Try.ntmps37
  go_wp2
  go_loopw [0, 7] (fun v o wr => ∃ (b : Nat) (s' : ByteArray) (done : List ByteArray), v = .string s' ∧ s'.size < b ∧ done.length + s'.size ≤ s.size ∧ Hid (done ++ parts f b s' = l) ∧ Below w.heap.size w wr ∧ wr.ownsRow w.heap.size 9 1 o done.length (strV done)) (fun v _ _ => sizeOf_ v)
  case atStart => exact ⟨s.size + 1, s, [], rfl, by omega, by simp, HL, Below.refl _ _, World.ownsRow_nil _ _ _ _⟩
  case round =>
    obtain ⟨b, s', done, rfl, hb', hle, HE, hbel, hown⟩ := hrel
    obtain ⟨b, rfl⟩ : ∃ c, b = c + 1 := ⟨b - 1, by omega⟩
    have HO := Lib.hid hown
    have HBL := Lib.hid hbel
    have hbs := hbel.size
    clear hown hbel
    cases hi' : idx s' f with
    | none =>
      have H2 := Lib.hid (parts_none (b := b + 1) hi')
      have K2 := Lib.hid (zzIndex_none s' f (by omega) hf hi')
      clear hi'
      go_wp2_with (first
        | (go_at_call 46; refine (K2.out _).mono ?_; rintro e w' ⟨rfl, rfl⟩)
        | (at_builtin; refine wpList_append_x _ rfl (.tmp 35) (.tmp 37) 31 rfl w.heap.size 9 i0 _ 1 16 Try.underlying31 hi hz hsz hb rfl (by omega) u7 done.length _ rfl (HO.out.alloc _) (wr.heap.size + 1) (some ⟨wr.heap.size, 0, none⟩) 1 1 [.string s'] rfl (Reads.ofBlock (cs := #[.string s']) (heap_new0 _ _) rfl (by omega)) (by simp [Value.oneCell']) (.inr (by omega)) (by unfold maxLen; omega) (by omega) (by simp; omega) (wr.heap.size + 1) (by simp) ?_; intro g2 cap2 w2 hown2 hgrow2 hat2 hlt2))
      have hb2 : Below w.heap.size w w2 := (HBL.out.alloc hbs _).grown hgrow2 (by simp; omega) (fun k hk => (HO.out.lt k hk).1)
      have hl2 : l = done ++ [s'] := by rw [← HE.out, H2.out]
      clear hgrow2 hat2
      go_ret
      refine ⟨_, rfl, ?_, hb2⟩
      rw [hl2, strV_snoc, List.length_append]
      exact hown2
    | some i =>
      have h1 := (idx_some hi').1
      have H2 := Lib.hid (parts_some (b := b) hi')
      have H3 := Lib.hid (rest_size h1)
      have K2 := Lib.hid (zzIndex_some s' f i (by omega) hf hi')
      have H5 := head_size h1
      clear hi'
      go_wp2_with (first
        | (go_at_call 46; refine (K2.out _).mono ?_; rintro e w' ⟨rfl, rfl⟩)
        | (at_builtin; refine wpList_append_x _ rfl (.tmp 23) (.tmp 27) 31 rfl w.heap.size 9 i0 _ 1 16 Try.underlying31 hi hz hsz hb rfl (by omega) u7 done.length _ rfl (HO.out.alloc _) (wr.heap.size + 1) (some ⟨wr.heap.size, 0, none⟩) 1 1 [.string (s'.extract 0 i)] rfl (Reads.ofBlock (cs := #[.string (s'.extract 0 i)]) (heap_new0 _ _) rfl (by omega)) (by simp [Value.oneCell']) (.inr (by omega)) (by unfold maxLen; omega) (by omega) (by simp; omega) (wr.heap.size + 1) (by simp) ?_; intro g2 cap2 w2 hown2 hgrow2 hat2 hlt2))
      have hb2 : Below w.heap.size w w2 := (HBL.out.alloc hbs _).grown hgrow2 (by simp; omega) (fun k hk => (HO.out.lt k hk).1)
      clear hgrow2 hat2
      go_roundw
      case rel => exact ⟨b, rest s' f i, done ++ [s'.extract 0 i], rfl, by rw [H3.out]; omega, by rw [H3.out, List.length_append, List.length_singleton]; omega, Lib.hid (by rw [← HE.out, H2.out, List.append_assoc]; rfl), hb2, by rw [strV_snoc, List.length_append]; exact hown2⟩
      case measure =>
        show (rest s' f i).size < s'.size
        rw [H3.out]; omega
end Go.Proofs.Ytijfabahpplimaa
