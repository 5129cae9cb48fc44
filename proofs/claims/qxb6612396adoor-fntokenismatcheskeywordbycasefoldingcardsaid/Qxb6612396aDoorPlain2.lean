import Derived.Test.Qxb6612396aDoorW2
import Derived.Lib.SpaceUEq
namespace Go.Proofs.Qxb6612396aDoor
theorem get_bang (s : ByteArray) (p : Nat) (h : p < s.size) : s.get! p = s[p] := by
  simp [ByteArray.get!, getElem!_pos, h]
  rfl
theorem num_kelvin (n b0 b1 b2 b3 : Nat) (h0 : b0 < 256) (h1 : b1 < 256) (h2 : b2 < 256) :
    ((Lib.decodeN n b0 b1 b2 b3).1 = 8490 ↔ (b0 = 226 ∧ b1 = 132 ∧ b2 = 170 ∧ 2 < n)) ∧ ((Lib.decodeN n b0 b1 b2 b3).1 = 8490 → (Lib.decodeN n b0 b1 b2 b3).2 = 3) ∧
    ((Lib.decodeN n b0 b1 b2 b3).1 = 383 ↔ (b0 = 197 ∧ b1 = 191 ∧ 1 < n)) ∧ ((Lib.decodeN n b0 b1 b2 b3).1 = 383 → (Lib.decodeN n b0 b1 b2 b3).2 = 2) := by
  refine ⟨⟨?_, ?_⟩, ?_, ⟨?_, ?_⟩, ?_⟩
  · intro h
    rcases Lib.decodeN_cases n b0 b1 b2 b3 with ⟨c, e⟩ | ⟨c1, c2, c3, cv, e⟩ | ⟨c1, c2, c3, c4, cv, e⟩ | ⟨c, e⟩ | e
    all_goals first | (rw [e] at h; dsimp only at h; omega) | omega
  · rintro ⟨rfl, rfl, rfl, hn⟩
    unfold Lib.decodeN
    rw [if_neg (by omega), if_neg (by omega), if_pos (by omega), if_pos (by omega)]
  · intro h
    rcases Lib.decodeN_cases n b0 b1 b2 b3 with ⟨c, e⟩ | ⟨c1, c2, c3, cv, e⟩ | ⟨c1, c2, c3, c4, cv, e⟩ | ⟨c, e⟩ | e
    · rw [e] at h; dsimp only at h; omega
    · rw [e] at h; dsimp only at h; omega
    · rw [e]
    · omega
    · rw [e] at h; dsimp only at h; omega
  · intro h
    rcases Lib.decodeN_cases n b0 b1 b2 b3 with ⟨c, e⟩ | ⟨c1, c2, c3, cv, e⟩ | ⟨c1, c2, c3, c4, cv, e⟩ | ⟨c, e⟩ | e
    all_goals first | (rw [e] at h; dsimp only at h; omega) | omega
  · rintro ⟨rfl, rfl, hn⟩
    unfold Lib.decodeN
    rw [if_neg (by omega), if_pos (by omega), if_pos (by omega)]
  · intro h
    rcases Lib.decodeN_cases n b0 b1 b2 b3 with ⟨c, e⟩ | ⟨c1, c2, c3, cv, e⟩ | ⟨c1, c2, c3, c4, cv, e⟩ | ⟨c, e⟩ | e
    · rw [e] at h; dsimp only at h; omega
    · rw [e]
    · rw [e] at h; dsimp only at h; omega
    · omega
    · rw [e] at h; dsimp only at h; omega
theorem num_wide (n b0 b1 b2 b3 : Nat) (h : ¬ b0 < 128) (hn : 1 ≤ n) : 128 ≤ (Lib.decodeN n b0 b1 b2 b3).1 ∧ 1 ≤ (Lib.decodeN n b0 b1 b2 b3).2 ∧ (Lib.decodeN n b0 b1 b2 b3).2 ≤ n ∧ (b0 < 256 → (Lib.decodeN n b0 b1 b2 b3).1 ≤ 1114111) := by
  unfold Lib.decodeN
  rw [if_neg h]
  repeat' split
  all_goals (simp only; omega)
/-- The rune at p, where the byte is no ASCII byte: what it has to do with the keyword's byte c. -/
theorem dec_wide (s : ByteArray) (p : Nat) (hp : p < s.size) (hb : ¬ s[p].toNat < 128) (c : UInt8) :
    128 ≤ (Utf8.decode s p).1 ∧ (Utf8.decode s p).1 ≤ 1114111 ∧ 1 ≤ (Utf8.decode s p).2 ∧ p + (Utf8.decode s p).2 ≤ s.size ∧
    eats (s.data.toList.drop p) c = if (low c.toNat = 107 ∧ (Utf8.decode s p).1 = 8490) ∨ (low c.toNat = 115 ∧ (Utf8.decode s p).1 = 383) then some (Utf8.decode s p).2 else none := by
  rw [Lib.decode_at, get_bang s p hp]
  obtain ⟨a1, a2, a3, a4⟩ := num_wide (s.size - p) s[p].toNat (s.get! (p + 1)).toNat (s.get! (p + 2)).toNat (s.get! (p + 3)).toNat hb (by omega)
  obtain ⟨k1, k2, k3, k4⟩ := num_kelvin (s.size - p) s[p].toNat (s.get! (p + 1)).toNat (s.get! (p + 2)).toNat (s.get! (p + 3)).toNat (s[p].toNat_lt) ((s.get! (p + 1)).toNat_lt) ((s.get! (p + 2)).toNat_lt)
  generalize hd : Lib.decodeN (s.size - p) s[p].toNat (s.get! (p + 1)).toNat (s.get! (p + 2)).toNat (s.get! (p + 3)).toNat = d at *
  refine ⟨a1, a4 s[p].toNat_lt, a2, by omega, ?_⟩
  rw [drop_cons s p hp, eats_wide _ _ _ hb]
  have e226 : ∀ (x : UInt8) (n : Nat), n < 256 → (x.toNat = n ↔ x = UInt8.ofNat n) := by
    intro x n hn
    constructor
    · intro h; apply UInt8.toNat_inj.1; rw [UInt8.toNat_ofNat', Nat.mod_eq_of_lt hn]; exact h
    · intro h; rw [h, UInt8.toNat_ofNat', Nat.mod_eq_of_lt hn]
  have q1 : (s[p] = 226 ∧ (s.data.toList.drop (p + 1)).take 2 = [132, 170]) ↔ d.1 = 8490 := by
    rw [k1]
    constructor
    · rintro ⟨h1, h2⟩
      have hl : p + 2 < s.size := by
        rcases Nat.lt_or_ge (p + 2) s.size with h | h
        · exact h
        · exact absurd h2 (take2_short s (p + 1) (by omega) _ _)
      rw [take2 s (p + 1) (by omega)] at h2
      obtain ⟨h3, h4⟩ := List.cons.inj h2
      obtain ⟨h4, _⟩ := List.cons.inj h4
      exact ⟨by rw [h1]; rfl, by rw [get_bang s (p + 1) (by omega), h3]; rfl, by rw [get_bang s (p + 2) (by omega)]; exact (by rw [h4]; rfl), by omega⟩
    · rintro ⟨h1, h2, h3, h4⟩
      rw [get_bang s (p + 1) (by omega)] at h2
      rw [get_bang s (p + 2) (by omega)] at h3
      refine ⟨(e226 _ 226 (by omega)).1 h1, ?_⟩
      rw [take2 s (p + 1) (by omega), (e226 _ 132 (by omega)).1 h2, (e226 _ 170 (by omega)).1 h3]; rfl
  have q2 : (s[p] = 197 ∧ (s.data.toList.drop (p + 1)).take 1 = [191]) ↔ d.1 = 383 := by
    rw [k3]
    constructor
    · rintro ⟨h1, h2⟩
      have hl : p + 1 < s.size := by
        rcases Nat.lt_or_ge (p + 1) s.size with h | h
        · exact h
        · exact absurd h2 (take1_short s (p + 1) h _)
      rw [take1 s (p + 1) hl] at h2
      obtain ⟨h3, _⟩ := List.cons.inj h2
      exact ⟨by rw [h1]; rfl, by rw [get_bang s (p + 1) hl, h3]; rfl, by omega⟩
    · rintro ⟨h1, h2, h4⟩
      rw [get_bang s (p + 1) (by omega)] at h2
      refine ⟨(e226 _ 197 (by omega)).1 h1, ?_⟩
      rw [take1 s (p + 1) (by omega), (e226 _ 191 (by omega)).1 h2]; rfl
  by_cases r1 : low c.toNat = 107 ∧ d.1 = 8490
  · rw [if_pos ⟨r1.1, q1.2 r1.2⟩, if_pos (Or.inl r1), k2 r1.2]
  · rw [if_neg (fun h => r1 ⟨h.1, q1.1 h.2⟩)]
    by_cases r2 : low c.toNat = 115 ∧ d.1 = 383
    · rw [if_pos ⟨r2.1, q2.2 r2.2⟩, if_pos (Or.inr r2), k4 r2.2]
    · rw [if_neg (fun h => r2 ⟨h.1, q2.1 h.2⟩), if_neg (fun h => h.elim r1 r2)]
end Go.Proofs.Qxb6612396aDoor
