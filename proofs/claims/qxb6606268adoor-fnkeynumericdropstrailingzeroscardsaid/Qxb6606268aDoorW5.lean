import Derived.Test.Qxb6606268aDoorW4
import Derived.Deep.CutBlock
import Derived.Deep.CutRange
namespace Go.Proofs.Qxb6606268aDoor
open Go.RowKit
/-- The string that a value holds. -/
def strOf : Value → ByteArray
  | .string s => s
  | _ => ⟨#[]⟩
/-- The law's own reading of a text: without the zeros that end it behind the point. -/
def wtz (l : List UInt8) : List UInt8 :=
  if l.any (fun c => c.toNat == 46) then (if (Lib.trimRightB l 48).getLast? = some 46 then (Lib.trimRightB l 48).dropLast else Lib.trimRightB l 48) else l
theorem get_list (s : ByteArray) (k : Nat) (h : k < s.size) : s.data.toList[k]? = some s[k] := by
  rw [Array.getElem?_toList]
  exact Array.getElem?_eq_getElem h
theorem split_last (s : ByteArray) (h : 0 < s.size) : s.data.toList = s.data.toList.take (s.size - 1) ++ [s[s.size - 1]'(by omega)] := by
  have h1 : s.size - 1 < s.data.toList.length := by rw [len_list]; omega
  have e := List.take_append_drop (s.size - 1) s.data.toList
  rw [List.drop_eq_getElem_cons h1, List.drop_eq_nil_of_le (by rw [len_list]; omega)] at e
  have e2 : s.data.toList[s.size - 1] = s[s.size - 1]'(by omega) := by
    have := get_list s (s.size - 1) (by omega)
    rw [List.getElem?_eq_getElem h1] at this
    exact Option.some.inj this
  rw [e2] at e
  exact e.symm
theorem trimR_step (s : ByteArray) (h : 0 < s.size) (h48 : ((s[s.size - 1]'(by omega)).toNat : Int) = 48) : Lib.trimRightB (s.extract 0 (s.size - 1)).data.toList 48 = Lib.trimRightB s.data.toList 48 := by
  have hc : s[s.size - 1]'(by omega) = 48 := UInt8.toNat_inj.1 (by have : (48 : UInt8).toNat = 48 := rfl; omega)
  rw [take_list]
  conv => rhs; rw [split_last s h, hc]
  unfold Lib.trimRightB
  rw [List.reverse_append]
  rfl
theorem trimR_stop (s : ByteArray) (h : 0 < s.size) (h48 : ((s[s.size - 1]'(by omega)).toNat : Int) ≠ 48) : Lib.trimRightB s.data.toList 48 = s.data.toList := by
  have hc : ((s[s.size - 1]'(by omega)) == (48 : UInt8)) = false := by
    rw [beq_eq_false_iff_ne]
    intro e
    rw [e] at h48
    exact h48 rfl
  have e := split_last s h
  unfold Lib.trimRightB
  conv => lhs; rw [e]
  rw [List.reverse_append]
  rw [List.reverse_singleton, List.singleton_append, List.dropWhile_cons_of_neg (by rw [hc]; decide), List.reverse_cons, List.reverse_reverse]
  exact e.symm
theorem trimR_nil (s : ByteArray) (h : s.size = 0) : Lib.trimRightB s.data.toList 48 = s.data.toList := by
  have : s.data.toList = [] := List.eq_nil_of_length_eq_zero (by rw [len_list]; exact h)
  rw [this]; rfl
theorem any_step (s : ByteArray) (k : Nat) (h : k < s.size) : (s.data.toList.drop k).any (fun c => c.toNat == 46) = (((s[k].toNat : Int) == 46) || (s.data.toList.drop (k + 1)).any (fun c => c.toNat == 46)) := by
  have h1 : k < s.data.toList.length := by rw [len_list]; exact h
  rw [List.drop_eq_getElem_cons h1, List.any_cons]
  have e2 : s.data.toList[k] = s[k] := by
    have := get_list s k h
    rw [List.getElem?_eq_getElem h1] at this
    exact Option.some.inj this
  rw [e2]
  congr 1
  rw [Bool.eq_iff_iff, beq_iff_eq, beq_iff_eq]
  omega
theorem bytes_ext {a b : ByteArray} (h : a.data.toList = b.data.toList) : a = b := by
  cases a; cases b; simp at h; rw [h]
set_option maxRecDepth 100000 in
set_option maxHeartbeats 1000000 in
theorem wtz_any (s : ByteArray) (w : World) (hs : s.size ≤ 100000000) :
    Calls Tryd.prog 10 #[.string s] w fun e w' => e = .returned (.string (bytesL (wtz s.data.toList))) ∧ w' = w := by
  obtain ⟨A, hA⟩ : ∃ A, s.data.toList.any (fun c => c.toNat == 46) = A := ⟨_, rfl⟩
  have HA : Hid (s.data.toList.any (fun c => c.toNat == 46) = A) := hA
  clear hA
  go_enter Tryd.func10, Tryd.ntmps10
  go_upto_block 0 with fail
  go_cut [3, 4] from 5 to 14 (fun b i wd => b = .bool A ∧ i = .int .i64 s.size ∧ wd = w)
  case first =>
    go_wp2_with fail
    go_loop [3, 4] (fun b i => ∃ (k : Nat) (p : Bool), k ≤ s.size ∧ b = .bool p ∧ i = .int .i64 k ∧ Hid ((p || (s.data.toList.drop k).any (fun c => c.toNat == 46)) = A)) (fun _ i => s.size - (intOf i).toNat)
    case atStart => exact ⟨0, false, by omega, rfl, by go_num, by unfold Hid; rw [List.drop_zero]; exact HA.out⟩
    case round =>
      obtain ⟨k, p, hk, rfl, rfl, hr⟩ := hrel
      by_cases hlt : k < s.size
      · cases hb : ((s[k].toNat : Int) == 46) with
        | true =>
          have hr2 : Hid ((true || (s.data.toList.drop (k + 1)).any (fun c => c.toNat == 46)) = A) := by
            unfold Hid
            rw [← hr.out, any_step s k hlt, hb]; simp
          go_wp2_with fail
          go_round
          case rel => exact ⟨k + 1, true, by omega, rfl, by go_num, hr2⟩
          case measure => simp [intOf]; omega
        | false =>
          have hr2 : Hid ((p || (s.data.toList.drop (k + 1)).any (fun c => c.toNat == 46)) = A) := by
            unfold Hid
            rw [← hr.out, any_step s k hlt, hb]; simp
          go_wp2_with fail
          go_round
          case rel => exact ⟨k + 1, p, by omega, rfl, by go_num, hr2⟩
          case measure => simp [intOf]; omega
      · have hks : k = s.size := by omega
        have hp : p = A := by
          have := hr.out
          rw [List.drop_eq_nil_of_le (by rw [len_list]; omega)] at this
          simpa using this
        go_wp2_with fail
        go_meet
        case rel => exact ⟨by first | rfl | rw [hp], by first | rfl | rw [hks], rfl⟩
  case rest =>
    obtain ⟨rfl, rfl, rfl⟩ := hcut
    cases A with
    | false =>
      go_wp2
      go_ret
      refine ⟨congrArg (fun b => Ending.returned (Value.string b)) (bytes_ext ?_), rfl⟩
      rw [bytesL_list]; unfold wtz; rw [if_neg (by rw [HA.out]; decide)]
    | true =>
      go_upto_block 2 with fail
      go_cut [0] from 18 to 33 (fun v wd => ∃ T : ByteArray, v = .string T ∧ T.size ≤ 100000000 ∧ Hid (T.data.toList = Lib.trimRightB s.data.toList 48) ∧ wd = wc)
      case first =>
        go_wp2_with fail
        go_loop [0] (fun v => ∃ T : ByteArray, v = .string T ∧ T.size ≤ 100000000 ∧ Hid (Lib.trimRightB T.data.toList 48 = Lib.trimRightB s.data.toList 48)) (fun v => (strOf v).size)
        case atStart => exact ⟨s, rfl, hs, rfl⟩
        case round =>
          obtain ⟨T, rfl, hT, hr⟩ := hrel
          by_cases h0 : 0 < T.size
          · have h0' : (0 : Int) < (T.size : Int) := by omega
            cases hb : (((T[T.size - 1]'(by omega)).toNat : Int) == 48) with
            | true =>
              have hr2 : Hid (Lib.trimRightB (T.extract 0 (T.size - 1)).data.toList 48 = Lib.trimRightB s.data.toList 48) := by
                unfold Hid
                rw [beq_iff_eq] at hb
                rw [trimR_step T h0 hb]; exact hr.out
              have hz : (T.extract 0 (T.size - 1)).size = T.size - 1 := by rw [ByteArray.size_extract]; omega
              go_wp2_with fail
              go_round
              case rel => exact ⟨T.extract 0 (T.size - 1), rfl, by omega, hr2⟩
              case measure => simp only [strOf]; omega
            | false =>
              have hr2 : Hid (T.data.toList = Lib.trimRightB s.data.toList 48) := by
                unfold Hid
                rw [beq_eq_false_iff_ne] at hb
                rw [← hr.out, trimR_stop T h0 hb]
              go_wp2_with fail
              go_meet
              case rel => exact ⟨T, rfl, hT, hr2, rfl⟩
          · have h0' : ¬ (0 : Int) < (T.size : Int) := by omega
            have hr2 : Hid (T.data.toList = Lib.trimRightB s.data.toList 48) := by
              unfold Hid
              rw [← hr.out, trimR_nil T (by omega)]
            go_wp2_with fail
            go_meet
            case rel => exact ⟨T, rfl, hT, hr2, rfl⟩
      case rest =>
        obtain ⟨T, rfl, hT, hr, rfl⟩ := hcut
        by_cases h0 : 0 < T.size
        · have h0' : (0 : Int) < (T.size : Int) := by omega
          have hgl : T.data.toList.getLast? = some (T[T.size - 1]'(by omega)) := by
            rw [split_last T h0]; simp
          have HG : Hid (T.data.toList.getLast? = some (T[T.size - 1]'(by omega))) := hgl
          clear hgl
          cases hb : (((T[T.size - 1]'(by omega)).toNat : Int) == 46) with
          | true =>
            go_wp2
            go_ret
            refine ⟨congrArg (fun b => Ending.returned (Value.string b)) (bytes_ext ?_), rfl⟩
            rw [bytesL_list]; unfold wtz
            rw [beq_iff_eq] at hb
            rw [if_pos HA.out, ← hr.out, if_pos (by rw [HG.out]; exact congrArg some (UInt8.toNat_inj.1 (by have : (46 : UInt8).toNat = 46 := rfl; omega))), take_list, List.dropLast_eq_take, len_list]
          | false =>
            go_wp2
            go_ret
            refine ⟨congrArg (fun b => Ending.returned (Value.string b)) (bytes_ext ?_), rfl⟩
            rw [bytesL_list]; unfold wtz
            rw [beq_eq_false_iff_ne] at hb
            rw [if_pos HA.out, ← hr.out, if_neg (by rw [HG.out]; intro e; rw [Option.some.inj e] at hb; exact hb rfl)]
        · have h0' : ¬ (0 : Int) < (T.size : Int) := by omega
          have hnil : T.data.toList = [] := List.eq_nil_of_length_eq_zero (by rw [len_list]; omega)
          have HG : Hid (T.data.toList = []) := hnil
          clear hnil
          go_wp2
          go_ret
          refine ⟨congrArg (fun b => Ending.returned (Value.string b)) (bytes_ext ?_), rfl⟩
          rw [bytesL_list]; unfold wtz
          rw [if_pos HA.out, ← hr.out, HG.out]; rfl
end Go.Proofs.Qxb6606268aDoor
