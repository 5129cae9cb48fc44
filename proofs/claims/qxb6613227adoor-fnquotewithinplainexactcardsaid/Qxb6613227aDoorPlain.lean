import Derived.Test.Qxb6613227aDoorProg
import Derived.ProofKit
import Derived.Lib.DecodeNEq
namespace Go.Proofs.Qxb6613227aDoor
theorem get_bang (s : ByteArray) (p : Nat) (h : p < s.size) : s.get! p = s[p] := by
  simp [ByteArray.get!, getElem!_pos, h]
  rfl
theorem wid_one (s : ByteArray) (i : Nat) (hi : i < s.size) (h : s[i].toNat < 194 ∨ 244 < s[i].toNat) : (Utf8.decode s i).2 = 1 := by
  rw [Lib.decode_at, get_bang s i hi]
  by_cases h1 : s[i].toNat < 128
  · unfold Lib.decodeN; rw [if_pos h1]
  · rw [Lib.bad_eq _ _ _ _ _ s[i].toNat_lt]
    unfold Lib.firstT
    repeat' split
    all_goals omega
def slowW (s : ByteArray) (i sz lo up : Nat) : Nat := if s.size < i + sz then 1 else if (s.get! (i + 1)).toNat < lo ∨ up < (s.get! (i + 1)).toNat then 1 else if sz ≤ 2 then 2
      else if (s.get! (i + 2)).toNat < 128 ∨ 191 < (s.get! (i + 2)).toNat then 1 else if sz ≤ 3 then 3 else if (s.get! (i + 3)).toNat < 128 ∨ 191 < (s.get! (i + 3)).toNat then 1 else 4
theorem wid_slow (s : ByteArray) (i : Nat) (hi : i < s.size) (sz lo up : Nat)
    (hc : ∀ b1 b2 b3, b1 < 256 → b2 < 256 → b3 < 256 → Lib.slowN (s.size - i) s[i].toNat b1 b2 b3 sz lo up = Lib.decodeN (s.size - i) s[i].toNat b1 b2 b3) :
    (Utf8.decode s i).2 = slowW s i sz lo up := by
  rw [Lib.decode_at, get_bang s i hi, ← hc _ _ _ (s.get! (i + 1)).toNat_lt (s.get! (i + 2)).toNat_lt (s.get! (i + 3)).toNat_lt]
  unfold Lib.slowN slowW
  have e : (s.size - i < sz) = (s.size < i + sz) := propext ⟨fun h => by omega, fun h => by omega⟩
  simp only [e]
  repeat' split
  all_goals rfl
theorem wid_C2 (s : ByteArray) (i : Nat) (hi : i < s.size) (hb : 194 ≤ s[i].toNat ∧ s[i].toNat < 224) : (Utf8.decode s i).2 = slowW s i 2 128 191 := wid_slow s i hi 2 128 191 (fun b1 b2 b3 h1 h2 h3 => Lib.slow_C2 _ _ b1 b2 b3 (by omega) h1 h2 h3 hb)
theorem wid_E0 (s : ByteArray) (i : Nat) (hi : i < s.size) (hb : s[i].toNat = 224) : (Utf8.decode s i).2 = slowW s i 3 160 191 := wid_slow s i hi 3 160 191 (fun b1 b2 b3 h1 h2 h3 => Lib.slow_E0 _ _ b1 b2 b3 (by omega) h1 h2 h3 hb)
theorem wid_E1 (s : ByteArray) (i : Nat) (hi : i < s.size) (hb : (225 ≤ s[i].toNat ∧ s[i].toNat < 237) ∨ (238 ≤ s[i].toNat ∧ s[i].toNat < 240)) : (Utf8.decode s i).2 = slowW s i 3 128 191 := wid_slow s i hi 3 128 191 (fun b1 b2 b3 h1 h2 h3 => Lib.slow_E1 _ _ b1 b2 b3 (by omega) h1 h2 h3 hb)
theorem wid_ED (s : ByteArray) (i : Nat) (hi : i < s.size) (hb : s[i].toNat = 237) : (Utf8.decode s i).2 = slowW s i 3 128 159 := wid_slow s i hi 3 128 159 (fun b1 b2 b3 h1 h2 h3 => Lib.slow_ED _ _ b1 b2 b3 (by omega) h1 h2 h3 hb)
theorem wid_F0 (s : ByteArray) (i : Nat) (hi : i < s.size) (hb : s[i].toNat = 240) : (Utf8.decode s i).2 = slowW s i 4 144 191 := wid_slow s i hi 4 144 191 (fun b1 b2 b3 h1 h2 h3 => Lib.slow_F0 _ _ b1 b2 b3 (by omega) h1 h2 h3 hb)
theorem wid_F1 (s : ByteArray) (i : Nat) (hi : i < s.size) (hb : 241 ≤ s[i].toNat ∧ s[i].toNat < 244) : (Utf8.decode s i).2 = slowW s i 4 128 191 := wid_slow s i hi 4 128 191 (fun b1 b2 b3 h1 h2 h3 => Lib.slow_F1 _ _ b1 b2 b3 (by omega) h1 h2 h3 hb)
theorem wid_F4 (s : ByteArray) (i : Nat) (hi : i < s.size) (hb : s[i].toNat = 244) : (Utf8.decode s i).2 = slowW s i 4 128 143 := wid_slow s i hi 4 128 143 (fun b1 b2 b3 h1 h2 h3 => Lib.slow_F4 _ _ b1 b2 b3 (by omega) h1 h2 h3 hb)
theorem wid_pos (s : ByteArray) (i : Nat) (hi : i < s.size) : 1 ≤ (Utf8.decode s i).2 ∧ i + (Utf8.decode s i).2 ≤ s.size := by
  rw [Lib.decode_at]
  unfold Lib.decodeN
  repeat' split
  all_goals (simp only; omega)
/-- Where the longest start of s that fits in m bytes ends, from place i on. -/
def keep (s : ByteArray) (m : Int) : Nat → Nat → Nat
  | 0, i => i
  | f + 1, i => if i < s.size then (if m < ((i + (Utf8.decode s i).2 : Nat) : Int) then i else keep s m f (i + (Utf8.decode s i).2)) else i
theorem keep_stop (s : ByteArray) (m : Int) (f i : Nat) (h : s.size ≤ i) : keep s m f i = i := by
  cases f with
  | zero => rfl
  | succ f => rw [keep, if_neg (by omega)]
theorem keep_cut (s : ByteArray) (m : Int) (f i : Nat) (hf : s.size ≤ i + f) (h : i < s.size) (hc : m < ((i + (Utf8.decode s i).2 : Nat) : Int)) : keep s m f i = i := by
  cases f with
  | zero => rfl
  | succ f => rw [keep, if_pos h, if_pos hc]
theorem keep_go (s : ByteArray) (m : Int) (f i : Nat) (hf : s.size ≤ i + f) (h : i < s.size) (hc : ¬ m < ((i + (Utf8.decode s i).2 : Nat) : Int)) : ∃ f', keep s m f i = keep s m f' (i + (Utf8.decode s i).2) ∧ s.size ≤ i + (Utf8.decode s i).2 + f' := by
  have := wid_pos s i h
  cases f with
  | zero => omega
  | succ f => exact ⟨f, by rw [keep, if_pos h, if_neg hc], by omega⟩
theorem keep_le (s : ByteArray) (m : Int) : ∀ (f i : Nat), (i : Int) ≤ m → i ≤ s.size → (keep s m f i : Int) ≤ m ∧ keep s m f i ≤ s.size
  | 0, i, h, h' => ⟨h, h'⟩
  | f + 1, i, h, h' => by
    rw [keep]
    by_cases h1 : i < s.size
    · rw [if_pos h1]
      have := wid_pos s i h1
      by_cases h2 : m < ((i + (Utf8.decode s i).2 : Nat) : Int)
      · rw [if_pos h2]; exact ⟨h, h'⟩
      · rw [if_neg h2]; exact keep_le s m f _ (by omega) (by omega)
    · rw [if_neg h1]; exact ⟨h, h'⟩
end Go.Proofs.Qxb6613227aDoor
