/-
  Code points to text and back: what the language writes of code points it reads as those code points.
-/
import Derived.Test.YtijfabahpplimaaText
import Derived.Laws.Cover4
namespace Go.Proofs.Ytijfabahpplimaa
open Go.RowKit

/-- A code point that stands for itself. -/
def Scal (r : Nat) : Prop := r ≤ 1114111 ∧ ¬ (55296 ≤ r ∧ r < 57344)
def enc (r : Nat) : ByteArray := Utf8.encode (Int.ofNat r)
def text (l : List Nat) : ByteArray := runesBytes (l.map Int.ofNat)

theorem text_nil : text [] = ByteArray.empty := rfl
theorem text_snoc (l : List Nat) (r : Nat) : text (l ++ [r]) = text l ++ enc r := by
  simp [text, runesBytes, enc]

theorem by_data (s : ByteArray) (i : Nat) : by_ s i = (s.data[i]?.getD default).toNat := by
  unfold by_
  show (s.data[i]!).toNat = _
  rw [getElem!_def]
  cases s.data[i]? <;> rfl
theorem by_mid (p e q : ByteArray) (k : Nat) (hk : k < e.size) : by_ (p ++ e ++ q) (p.size + k) = by_ e k := by
  have hk' : k < e.data.size := hk
  have hp : p.size = p.data.size := rfl
  rw [by_data, by_data]
  congr 2
  simp only [ByteArray.data_append]
  rw [Array.getElem?_append_left (by rw [Array.size_append]; omega), Array.getElem?_append_right (by omega), hp]
  congr 1
  omega

theorem valid_scal {r : Nat} (h : Scal r) : Utf8.valid (Int.ofNat r) = true := by
  unfold Scal at h
  have e : (Int.ofNat r) = (r : Int) := rfl
  simp [Utf8.valid]; omega

theorem enc_data {r : Nat} (h : Scal r) : (enc r).data = if r < 128 then #[UInt8.ofNat r] else if r < 2048 then #[UInt8.ofNat (192 + r / 64), UInt8.ofNat (128 + r % 64)]
    else if r < 65536 then #[UInt8.ofNat (224 + r / 4096), UInt8.ofNat (128 + r / 64 % 64), UInt8.ofNat (128 + r % 64)]
    else #[UInt8.ofNat (240 + r / 262144), UInt8.ofNat (128 + r / 4096 % 64), UInt8.ofNat (128 + r / 64 % 64), UInt8.ofNat (128 + r % 64)] := by
  unfold enc Utf8.encode
  have e : (Int.ofNat r).toNat = r := rfl
  simp only [valid_scal h, if_true, e]
  repeat' split
  all_goals rfl

theorem u8_nat {n : Nat} (h : n < 256) : (UInt8.ofNat n).toNat = n := by rw [UInt8.toNat_ofNat']; omega
theorem enc_pt {r : Nat} (h : Scal r) (p q : ByteArray) : PtOk (p ++ enc r ++ q) p.size r (enc r).size := by
  have hd := enc_data h
  have hsz : (p ++ enc r ++ q).size = p.size + (enc r).size + q.size := by simp [ByteArray.size_append]
  have hb : ∀ k, k < (enc r).size → by_ (p ++ enc r ++ q) (p.size + k) = ((enc r).data[k]?.getD default).toNat := fun k hk => by rw [by_mid p _ q k hk, by_data]
  have h2 := h
  unfold Scal at h2
  generalize p ++ enc r ++ q = s at *
  have hs : ∀ b : ByteArray, b.size = b.data.size := fun _ => rfl
  rw [hs (enc r)] at hsz hb ⊢
  rw [hd] at hsz hb ⊢
  clear hd hs
  by_cases c1 : r < 128
  · rw [if_pos c1] at hsz hb ⊢
    have b0 := hb 0 (by simp)
    simp only [Nat.add_zero] at b0
    have e0 : by_ s p.size = r := by rw [b0]; exact u8_nat (by omega)
    have := decode1 (s := s) (i := p.size) (by simp at hsz; omega) (by omega)
    rw [e0] at this
    exact this
  · rw [if_neg c1] at hsz hb ⊢
    by_cases c2 : r < 2048
    · rw [if_pos c2] at hsz hb ⊢
      have b0 := hb 0 (by simp)
      have b1 := hb 1 (by simp)
      simp only [Nat.add_zero] at b0
      have e0 : by_ s p.size = 192 + r / 64 := by rw [b0]; exact u8_nat (by omega)
      have e1 : by_ s (p.size + 1) = 128 + r % 64 := by rw [b1]; exact u8_nat (by omega)
      simp at hsz
      refine decodeN 2 192 128 (.inl ⟨rfl, rfl, rfl, by omega, by omega⟩) (by omega) ?_ r ?_ (by omega) (by omega) h2.2
      · intro j h3 h4
        obtain rfl : j = 1 := by omega
        omega
      · rw [accf2, e0, e1]; omega
    · rw [if_neg c2] at hsz hb ⊢
      by_cases c3 : r < 65536
      · rw [if_pos c3] at hsz hb ⊢
        have b0 := hb 0 (by simp)
        have b1 := hb 1 (by simp)
        have b2 := hb 2 (by simp)
        simp only [Nat.add_zero] at b0
        have e0 : by_ s p.size = 224 + r / 4096 := by rw [b0]; exact u8_nat (by omega)
        have e1 : by_ s (p.size + 1) = 128 + r / 64 % 64 := by rw [b1]; exact u8_nat (by omega)
        have e2 : by_ s (p.size + 2) = 128 + r % 64 := by rw [b2]; exact u8_nat (by omega)
        simp at hsz
        refine decodeN 3 224 2048 (.inr (.inl ⟨rfl, rfl, rfl, by omega, by omega⟩)) (by omega) ?_ r ?_ (by omega) (by omega) h2.2
        · intro j h3 h4
          obtain rfl | rfl : j = 1 ∨ j = 2 := by omega
          · omega
          · omega
        · rw [accf3, e0, e1, e2]; omega
      · rw [if_neg c3] at hsz hb ⊢
        have b0 := hb 0 (by simp)
        have b1 := hb 1 (by simp)
        have b2 := hb 2 (by simp)
        have b3 := hb 3 (by simp)
        simp only [Nat.add_zero] at b0
        have e0 : by_ s p.size = 240 + r / 262144 := by rw [b0]; exact u8_nat (by omega)
        have e1 : by_ s (p.size + 1) = 128 + r / 4096 % 64 := by rw [b1]; exact u8_nat (by omega)
        have e2 : by_ s (p.size + 2) = 128 + r / 64 % 64 := by rw [b2]; exact u8_nat (by omega)
        have e3 : by_ s (p.size + 3) = 128 + r % 64 := by rw [b3]; exact u8_nat (by omega)
        simp at hsz
        refine decodeN 4 240 65536 (.inr (.inr ⟨rfl, rfl, rfl, by omega, by omega⟩)) (by omega) ?_ r ?_ (by omega) (by omega) h2.2
        · intro j h3 h4
          obtain rfl | rfl | rfl : j = 1 ∨ j = 2 ∨ j = 3 := by omega
          · omega
          · omega
          · omega
        · rw [accf4, e0, e1, e2, e3]; omega

theorem text_pre : ∀ (a b : List Nat), ∃ t, text (a ++ b) = text a ++ t
  | a, [] => ⟨ByteArray.empty, by simp⟩
  | a, x :: b => by
    obtain ⟨t, ht⟩ := text_pre (a ++ [x]) b
    have e : a ++ x :: b = (a ++ [x]) ++ b := by simp
    exact ⟨enc x ++ t, by rw [e, ht, text_snoc, ByteArray.append_assoc]⟩
theorem text_upto (s : ByteArray) : ∀ (l2 l1 : List Nat) (q : ByteArray), (∀ r ∈ l2, Scal r) → Upto s (text l1).size l1 → s = text (l1 ++ l2) ++ q → Upto s (text (l1 ++ l2)).size (l1 ++ l2)
  | [], l1, q, _, h, _ => by simpa using h
  | r :: l2, l1, q, hs, h, he => by
    have e1 : l1 ++ r :: l2 = (l1 ++ [r]) ++ l2 := by simp
    obtain ⟨t, ht⟩ : ∃ t, text ((l1 ++ [r]) ++ l2) = text (l1 ++ [r]) ++ t := by
      have := text_pre (l1 ++ [r]) l2
      exact this
    have hp := enc_pt (hs r (by simp)) (text l1) (t ++ q)
    have hsr : text l1 ++ enc r ++ (t ++ q) = s := by
      rw [he, e1, ht, text_snoc, ByteArray.append_assoc (b := t)]
    rw [hsr] at hp
    have hlt : (text l1).size < s.size := by have := hp.1; have := hp.2.1; omega
    have h1 := upto_step h hlt hp
    rw [e1]
    have h2 : (text l1).size + (enc r).size = (text (l1 ++ [r])).size := by rw [text_snoc]; simp
    rw [h2] at h1
    exact text_upto s l2 (l1 ++ [r]) q (fun x hx => hs x (by simp [hx])) h1 (by rw [he, e1])

theorem text_runes (l : List Nat) (h : ∀ r ∈ l, Scal r) : runes (text l) = runesOf l := by
  have h1 := text_upto (text l) l [] ByteArray.empty h (upto_start _) (by simp)
  exact upto_end h1

theorem decode_scal (s : ByteArray) (i : Nat) : Scal (Utf8.decode s i).1 := by
  have hv : ∀ c : Nat, Utf8.valid (c : Int) = true → Scal c := by
    intro c hc
    simp [Utf8.valid] at hc
    unfold Scal; omega
  have he : Scal Utf8.runeError := by unfold Scal Utf8.runeError; omega
  unfold Utf8.decode
  simp only
  repeat' split
  all_goals first
    | exact he
    | (rename_i h; unfold Scal; simp only; omega)
    | (rename_i h; simp only [Bool.and_eq_true] at h; exact hv _ h.2)
    | (unfold Scal; simp only; have h1 := UInt8.toNat_lt (s.get! i); have h2 := UInt8.toNat_lt (s.get! (i + 1)); omega)
theorem runesFrom_scal (s : ByteArray) : ∀ (b i : Nat) (acc : Array Value), (∀ v ∈ acc.toList, ∃ r, Scal r ∧ v = .int .i32 (Int.ofNat r)) → ∀ v ∈ (Conv.runesFrom s b i acc).toList, ∃ r, Scal r ∧ v = .int .i32 (Int.ofNat r)
  | 0, i, acc, h => h
  | b + 1, i, acc, h => by
    unfold Conv.runesFrom
    split
    · refine runesFrom_scal s b _ _ ?_
      intro v hv
      simp only [Array.toList_push, List.mem_append, List.mem_singleton] at hv
      rcases hv with hv | rfl
      · exact h v hv
      · exact ⟨_, decode_scal s i, rfl⟩
    · exact h
theorem units_scal {s : ByteArray} {l : List Nat} (h : Conv.runesFrom s s.size 0 #[] = runesOf l) : ∀ r ∈ l, Scal r := by
  intro r hr
  have h1 := runesFrom_scal s s.size 0 #[] (by simp) (.int .i32 (Int.ofNat r)) (by rw [h]; exact List.mem_map.2 ⟨r, hr, rfl⟩)
  obtain ⟨r', h2, h3⟩ := h1
  injection h3 with _ h3
  have : r = r' := Int.ofNat_inj.1 h3
  rw [this]
  exact h2
end Go.Proofs.Ytijfabahpplimaa
