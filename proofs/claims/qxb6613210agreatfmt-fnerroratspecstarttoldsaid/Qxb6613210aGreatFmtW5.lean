import Derived.Test.Qxb6613210aGreatFmtW1
namespace Go.Proofs.Qxb6613210aGreatFmt
open Go.RowKit Pl

/-- A row of bytes in block N of the call's own: each of the first m cells a byte, none frozen. -/
def Bytes (N m : Nat) (w : World) : Prop := ∀ j, j < m → (∃ b : UInt8, w.cell? ⟨N, j, none⟩ = some (.int .u8 b.toNat)) ∧ w.frozen? ⟨N, j, none⟩ = false

theorem two_pow_half {m k : Nat} (h : m < 2 ^ (k + 1)) : m / 10 < 2 ^ k := by
  rw [Nat.pow_succ] at h; omega
/-- A store of a byte into such a row. -/
theorem Bytes.set {N m : Nat} {w : World} (h : Bytes N m w) (i : Nat) (hi : i < m) (x : UInt8) : Bytes N m (w.setCell ⟨N, i, none⟩ (.int .u8 x.toNat)) := by
  intro j hj
  obtain ⟨⟨b, hc⟩, hf⟩ := h j hj
  refine ⟨?_, by rw [World.frozen?_setCell]; exact hf⟩
  by_cases e : j = i
  · subst e; exact ⟨x, World.cell?_setCell_same _ _ _ hc⟩
  · exact ⟨b, by rw [World.cell?_setCell_other _ _ _ _ (by simp only [ne_eq, Addr.mk.injEq, true_and, and_true]; exact fun h => e h.symm)]; exact hc⟩
theorem Lib_add (N i j : Nat) : (⟨N, i, none⟩ : Addr).add j = ⟨N, i + j, none⟩ := by
  simp only [Addr.add]; split <;> simp_all
/-- Such a row, from place i on, as a string. -/
theorem Bytes.conv {N m : Nat} {w : World} (h : Bytes N m w) (i : Nat) (hi : i ≤ m) (cap : Nat) :
    ∃ t : ByteArray, (convert 66 9 (.slice (some ⟨N, i, none⟩) (m - i) cap)).run Tryz.prog w = .ok (.string t) w := by
  have hex : ∀ n : Nat, i + n ≤ m → ∃ l : List UInt8, l.length = n ∧ ∀ j (hj : j < l.length), w.cell? ((⟨N, i, none⟩ : Addr).add j) = some (.int .u8 (l[j].toNat : Int)) := by
    intro n
    induction n with
    | zero => intro _; exact ⟨[], rfl, fun j hj => by simp at hj⟩
    | succ n ih =>
      intro hn
      obtain ⟨l, hl, hc⟩ := ih (by omega)
      obtain ⟨⟨b, hb⟩, _⟩ := h (i + n) (by omega)
      refine ⟨l ++ [b], by simp [hl], fun j hj => ?_⟩
      by_cases e : j < l.length
      · rw [List.getElem_append_left e]; exact hc j e
      · have : j = n := by simp at hj; omega
        subst this
        rw [List.getElem_append_right (by omega)]
        rw [Lib_add]; simpa [hl] using hb
  obtain ⟨l, hl, hc⟩ := hex (m - i) (by omega)
  refine ⟨⟨l.toArray⟩, ?_⟩
  rw [← hl]
  exact run_convert_bytes_back w 66 9 5 ⟨N, i, none⟩ cap l Tryz.underlying66 Tryz.underlying5 Tryz.underlying9 hc

set_option maxRecDepth 100000 in
set_option maxHeartbeats 1000000 in
theorem digitsIn_any (n : Nat) (w : World) (hn : n ≤ 18446744073709551615) :
    Calls Tryz.prog 37 #[.int .u64 n, .int .u64 10, .bool false] w fun e w' => (∃ t : ByteArray, e = .returned (.string t)) ∧ Below w.heap.size w w' := by
  by_cases h0 : n = 0
  · subst h0
    go_enter Tryz.func37, Tryz.ntmps37
    go_wp2
    go_ret
    exact ⟨⟨_, rfl⟩, Below.refl _ _⟩
  · have hn0 : ((n : Int) == 0) = false := by simpa using h0
    go_enter Tryz.func37, Tryz.ntmps37
    go_wp2
    go_loopw [0, 8] (fun v i wr => ∃ k : Nat, k ≤ 64 ∧ i = .int .i64 k ∧ ∃ n : Nat, v = .int .u64 n ∧ n ≤ 18446744073709551615 ∧ Hid (n < 2 ^ k) ∧ Hid (k = 64 → 0 < n) ∧ Below w.heap.size w wr ∧ w.heap.size < wr.heap.size ∧ Hid (Bytes w.heap.size 64 wr)) (fun _ i _ => (intOf i).toNat)
    case atStart =>
      refine ⟨64, Nat.le_refl _, rfl, n, rfl, hn, ?_, fun _ => by omega, (Below.refl _ _).alloc (Nat.le_refl _) _, by simp, ?_⟩
      · unfold Hid; omega
      · unfold Hid
        intro j hj
        refine ⟨⟨0, ?_⟩, ?_⟩
        · rw [World.cell?_alloc_new]
          show (Array.replicate 64 (Value.int .u8 0))[j]? = _
          rw [Array.getElem?_replicate, if_pos hj]; rfl
        · exact World.frozen?_alloc_new _ _ _ _
    case round =>
      obtain ⟨k, hk, rfl, m, rfl, hm, HP, HK, hb, hz, HB⟩ := hrel
      by_cases hpos : 0 < m
      · obtain ⟨k, rfl⟩ : ∃ k', k = k' + 1 := ⟨k - 1, by
          have := HP.out
          cases k with
          | zero => simp at this; omega
          | succ k => omega⟩
        obtain ⟨⟨b, hc⟩, hf⟩ := HB.out k (by omega)
        have hr : m % 10 < 10 := by omega
        go_wp2
        go_roundw
        case rel => exact ⟨k, by omega, rfl, m / 10, by go_num, by omega, two_pow_half HP.out, fun _ => by omega, hb.setCell (by simp) _, by simpa using hz, HB.out.set k (by omega) _⟩
        case measure => simp [intOf]
      · have hk2 : k < 64 := by
          rcases Nat.lt_or_ge k 64 with h | h
          · exact h
          · exact absurd (HK.out (by omega)) hpos
        obtain ⟨t, hcv⟩ := HB.out.conv k hk (64 - k)
        have hal : Tryz.prog.arrayLen 96 = 64 := by simp [Program.arrayLen, Tryz.underlying96]
        have hsl : ∀ W, (Instr.sliceAt 96 (.pointer (some ⟨w.heap.size, 0, none⟩)) (some (.int .i64 k)) none none).run Tryz.prog W = .ok (.slice (some ⟨w.heap.size, k, none⟩) (64 - k) (64 - k)) W := fun W => by
          rw [run_sliceAt_array_l W 96 ⟨w.heap.size, 0, none⟩ (by simp [Program.arrayLen, Program.elem, Tryz.underlying96]) .i64 k (by omega) (by rw [hal]; omega)]
          go_simp
          omega
        clear hal
        go_wp2
        go_ret
        exact ⟨⟨_, rfl⟩, hb⟩
end Go.Proofs.Qxb6613210aGreatFmt
