import Derived.Test.Qxb6606268aDoorW5
namespace Go.Proofs.Qxb6606268aDoor
theorem trimR_zeros (l : List UInt8) (n : Nat) : Lib.trimRightB (l ++ List.replicate n 48) 48 = Lib.trimRightB l 48 := by
  unfold Lib.trimRightB
  rw [List.reverse_append, List.reverse_replicate]
  congr 1
  induction n with
  | zero => rfl
  | succ n ih => rw [List.replicate_succ, List.cons_append, List.dropWhile_cons_of_pos (by decide)]; exact ih
theorem trimR_same (l : List UInt8) (h : l.getLast? ≠ some 48) : Lib.trimRightB l 48 = l := by
  unfold Lib.trimRightB
  rw [← List.head?_reverse] at h
  cases hl : l.reverse with
  | nil => rw [List.reverse_eq_nil_iff.1 hl]; rfl
  | cons a t =>
    rw [hl] at h
    have ha : (a == (48 : UInt8)) = false := by
      rw [beq_eq_false_iff_ne]; intro e; exact h (by rw [e]; rfl)
    rw [List.dropWhile_cons_of_neg (by rw [ha]; decide), ← hl, List.reverse_reverse]
/-- The part of the text ahead of the point. -/
def headS (neg : Bool) (d : List UInt8) (ex : Int) : List UInt8 :=
  (if neg then [45] else []) ++ (if ex + d.length ≤ 0 then [48] else []) ++ d.take (min (max (ex + d.length) 0) d.length).toNat ++ List.replicate (max ex 0).toNat 48
theorem numS_eq (neg : Bool) (d : List UInt8) (ex sc : Int) : numS neg d ex sc = headS neg d ex ++ (if 0 < sc then [46] ++ List.replicate (max (-(ex + d.length)) 0).toNat 48 ++ d.drop (min (max (ex + d.length) 0) d.length).toNat ++ List.replicate (sc - max (-ex) 0).toNat 48 else []) := rfl
theorem head_noDot (neg : Bool) (d : List UInt8) (ex : Int) (hd : ∀ x ∈ d, x ≠ 46) : (headS neg d ex).any (fun c => c.toNat == 46) = false := by
  rw [List.any_eq_false]
  intro x hx h
  have hx46 : x = 46 := UInt8.toNat_inj.1 (by rw [beq_iff_eq] at h; exact h)
  unfold headS at hx
  simp only [List.mem_append] at hx
  rcases hx with ((hx | hx) | hx) | hx
  · split at hx
    · rw [List.mem_singleton] at hx; rw [hx] at hx46; revert hx46; decide
    · cases hx
  · split at hx
    · rw [List.mem_singleton] at hx; rw [hx] at hx46; revert hx46; decide
    · cases hx
  · exact hd x (List.mem_of_mem_take hx) hx46
  · have := List.eq_of_mem_replicate hx
    rw [this] at hx46; revert hx46; decide
theorem last_append (a b : List UInt8) (h : b ≠ []) : (a ++ b).getLast? = b.getLast? := by
  rw [List.getLast?_append]
  cases hb : b.getLast? with
  | none => exact absurd (List.getLast?_eq_none_iff.1 hb) h
  | some x => rfl
/-- THE PLAIN LAW. -/
theorem plain (neg : Bool) (d : List UInt8) (ex sc : Int) (hsc : 0 ≤ sc) (h1 : -ex ≤ sc) (hd : (d = [] ∧ ex = 0 ∧ neg = false) ∨ (d ≠ [] ∧ d.getLast? ≠ some 48)) (hdig : ∀ x ∈ d, x ≠ 46) :
    wtz (numS neg d ex sc) = numS neg d ex (max (-ex) 0) := by
  have hno := head_noDot neg d ex hdig
  by_cases hs0 : 0 < sc
  · have hdot : (numS neg d ex sc).any (fun c => c.toNat == 46) = true := by
      rw [numS_eq, if_pos hs0, List.any_append]
      simp
    unfold wtz
    rw [if_pos hdot]
    by_cases he : 0 ≤ ex
    · have e1 : (max (-(ex + (d.length : Int))) 0).toNat = 0 := by omega
      have e2 : (min (max (ex + (d.length : Int)) 0) (d.length : Int)).toNat = d.length := by omega
      have e3 : ¬ 0 < max (-ex) 0 := by omega
      have ht : Lib.trimRightB (numS neg d ex sc) 48 = headS neg d ex ++ [46] := by
        rw [numS_eq, if_pos hs0, e1, e2, List.drop_length, List.replicate_zero, List.append_nil, List.append_nil, ← List.append_assoc, trimR_zeros]
        refine trimR_same _ ?_
        rw [last_append _ _ (by simp)]
        intro h; revert h; decide
      rw [ht, if_pos (by rw [last_append _ _ (by simp)]; rfl), List.dropLast_concat, numS_eq, if_neg e3, List.append_nil]
    · rcases hd with ⟨_, hd, _⟩ | ⟨hd1, hd2⟩
      · omega
      · have hlen : 0 < d.length := List.length_pos_iff.2 hd1
        have e2 : (min (max (ex + (d.length : Int)) 0) (d.length : Int)).toNat < d.length := by omega
        have hD : d.drop (min (max (ex + (d.length : Int)) 0) (d.length : Int)).toNat ≠ [] := by
          intro h
          have := List.drop_eq_nil_iff.1 h
          omega
        have hDl : (d.drop (min (max (ex + (d.length : Int)) 0) (d.length : Int)).toNat).getLast? = d.getLast? := by
          conv => rhs; rw [← List.take_append_drop (min (max (ex + (d.length : Int)) 0) (d.length : Int)).toNat d]
          rw [last_append _ _ hD]
        obtain ⟨n1, hn1⟩ : ∃ n, (min (max (ex + (d.length : Int)) 0) (d.length : Int)).toNat = n := ⟨_, rfl⟩
        obtain ⟨n2, hn2⟩ : ∃ n, (max (-(ex + (d.length : Int))) 0).toNat = n := ⟨_, rfl⟩
        have e3 : 0 < max (-ex) 0 := by omega
        have e4 : (max (-ex) 0 - max (-ex) 0).toNat = 0 := by omega
        have hk : numS neg d ex (max (-ex) 0) = headS neg d ex ++ ([46] ++ List.replicate n2 48 ++ d.drop n1) := by
          rw [numS_eq, if_pos e3, e4, hn1, hn2, List.replicate_zero, List.append_nil]
        have hl : (headS neg d ex ++ ([46] ++ List.replicate n2 48 ++ d.drop n1)).getLast? = d.getLast? := by
          rw [hn1] at hD hDl
          rw [last_append _ _ (by simp), last_append _ _ hD, hDl]
        have ht : Lib.trimRightB (numS neg d ex sc) 48 = numS neg d ex (max (-ex) 0) := by
          rw [hk, numS_eq, if_pos hs0, hn1, hn2, ← List.append_assoc, trimR_zeros]
          refine trimR_same _ ?_
          rw [hl]; exact hd2
        rw [ht, if_neg ?_]
        rw [hk, hl]
        intro h
        exact hdig 46 (List.mem_of_getLast? h) rfl
  · have h0 : sc = 0 := by omega
    subst h0
    have e1 : max (-ex) 0 = 0 := by omega
    have hdot : (numS neg d ex 0).any (fun c => c.toNat == 46) = false := by
      rw [numS_eq, if_neg hs0, List.append_nil]; exact hno
    unfold wtz
    rw [if_neg (by rw [hdot]; decide), e1]
end Go.Proofs.Qxb6606268aDoor
