/-
  The runes of a text, as a list of numbers; text of runes. Plain.
-/
import Derived.Test.YtpgmnggicmbacaaDoorSyGc
import Derived.Laws.IdiomStrings
import Derived.Laws.Cover4
namespace Go.Proofs.YtpgmnggicmbacaaDoor
open Go.Shelf Go.RowKit
set_option linter.unusedVariables false
set_option linter.unusedSimpArgs false

def rnF (s : ByteArray) : Nat → Nat → List Int
  | 0, _ => []
  | b + 1, i => if i < s.size then ((Utf8.decode s i).1 : Int) :: rnF s b (i + (Utf8.decode s i).2) else []
theorem conv_rn (s : ByteArray) : ∀ (b i : Nat) (acc : Array Value), Conv.runesFrom s b i acc = acc ++ ((rnF s b i).map (Value.int .i32)).toArray
  | 0, _, acc => by simp [Conv.runesFrom, rnF]
  | b + 1, i, acc => by
    rw [Conv.runesFrom, rnF]
    split
    · simp only [conv_rn s b]
      simp
    · simp
theorem rnF_len (s : ByteArray) : ∀ (b i : Nat), (rnF s b i).length ≤ b
  | 0, _ => by simp [rnF]
  | b + 1, i => by
    rw [rnF]
    split
    · have := rnF_len s b (i + (Utf8.decode s i).2)
      simp
      omega
    · simp
theorem rnF_head {s : ByteArray} (h : 0 < s.size) (hb : by_ s 0 = 47) : ∃ l, rnF s s.size 0 = 47 :: l := by
  obtain ⟨n, hn⟩ : ∃ n, s.size = n + 1 := ⟨s.size - 1, by omega⟩
  have h1 := (peek_by h (by omega)).1
  unfold peekR at h1
  rw [if_pos h, hb] at h1
  rw [hn, rnF, if_pos h, h1]
  exact ⟨_, rfl⟩
theorem rnF_pos {s : ByteArray} (h : 0 < s.size) : 1 ≤ (rnF s s.size 0).length := by
  obtain ⟨n, hn⟩ : ∃ n, s.size = n + 1 := ⟨s.size - 1, by omega⟩
  rw [hn, rnF, if_pos h]
  simp
theorem by_append {r q : ByteArray} (h : 0 < r.size) : by_ (r ++ q) 0 = by_ r 0 := by
  unfold by_
  have h2 : 0 < (r ++ q).size := by rw [ByteArray.size_append]; omega
  have e1 : ∀ (x : ByteArray) (hx : 0 < x.size), x.get! 0 = x[0]'hx := fun x hx => by
    obtain ⟨d⟩ := x
    show d[0]! = d[0]'hx
    exact getElem!_pos d 0 hx
  rw [e1 r h, e1 _ h2, ByteArray.getElem_append_left h]
theorem fold_head : ∀ (l : List Int) (r : ByteArray), 0 < r.size → by_ r 0 = 47 → 0 < (l.foldl (fun r n => r ++ Utf8.encode n) r).size ∧ by_ (l.foldl (fun r n => r ++ Utf8.encode n) r) 0 = 47
  | [], r, h1, h2 => ⟨h1, h2⟩
  | x :: l, r, h1, h2 => fold_head l _ (by rw [ByteArray.size_append]; omega) (by rw [by_append h1, h2])
theorem rb_head (l : List Int) : 0 < (runesBytes (47 :: l)).size ∧ by_ (runesBytes (47 :: l)) 0 = 47 := by
  unfold runesBytes
  rw [List.foldl_cons]
  exact fold_head l _ (by decide) (by decide)
end Go.Proofs.YtpgmnggicmbacaaDoor
