import Derived.Test.Qxb6612396aDoorShelf
import Derived.Test.Qxb6612396aDoorPlain
import Derived.Handy
namespace Go.Proofs.Qxb6612396aDoor
open Go.RowKit
/-- unicode.asciiFold's entry. -/
def foldA (r : Nat) : Nat := if 65 ≤ r ∧ r ≤ 90 then r + 32 else if r = 107 then 8490 else if r = 115 then 383 else if 97 ≤ r ∧ r ≤ 122 then r - 32 else r
/-- unicode.caseOrbit's entries. -/
def orbL : List (Int × Int) := [(75, 107), (83, 115), (107, 8490), (115, 383), (181, 924), (197, 229), (223, 7838), (229, 8491), (304, 304), (305, 305), (383, 83), (452, 453), (453, 454), (454, 452), (455, 456), (456, 457), (457, 455), (458, 459), (459, 460), (460, 458), (497, 498), (498, 499), (499, 497), (837, 921), (912, 8147), (914, 946), (917, 949), (920, 952), (921, 953), (922, 954), (924, 956), (928, 960), (929, 961), (931, 962), (934, 966), (937, 969), (944, 8163), (946, 976), (949, 1013), (952, 977), (953, 8126), (954, 1008), (956, 181), (960, 982), (961, 1009), (962, 963), (963, 931), (966, 981), (969, 8486), (976, 914), (977, 1012), (981, 934), (982, 928), (1008, 922), (1009, 929), (1012, 920), (1013, 917), (1042, 1074), (1044, 1076), (1054, 1086), (1057, 1089), (1058, 1090), (1066, 1098), (1074, 7296), (1076, 7297), (1086, 7298), (1089, 7299), (1090, 7300), (1098, 7302), (1122, 1123), (1123, 7303), (7296, 1042), (7297, 1044), (7298, 1054), (7299, 1057), (7300, 7301), (7301, 1058), (7302, 1066), (7303, 1122), (7304, 42570), (7776, 7777), (7777, 7835), (7835, 7776), (7838, 223), (8126, 837), (8147, 912), (8163, 944), (8486, 937), (8490, 75), (8491, 197), (42570, 42571), (42571, 7304), (64261, 64262), (64262, 64261)]
/-- What the walks ask of the world. -/
structure Tab (w : World) : Prop where
  fold : ∀ r : Nat, r < 128 → w.cell? ⟨0, r, none⟩ = some (.int .u16 (foldA r))
  orb : ∃ blk off cap, w.cell? ⟨1, 0, none⟩ = some (.slice (some ⟨blk, off, none⟩) 94 cap) ∧ ∀ i : Nat, i < 94 → w.cell? ⟨blk, off + 2 * i, none⟩ = some (.int .u16 (orbL.getD i (0, 0)).1) ∧ w.cell? ⟨blk, off + (2 * i + 1), none⟩ = some (.int .u16 (orbL.getD i (0, 0)).2)
set_option maxRecDepth 100000 in
set_option maxHeartbeats 1000000 in
theorem fold_ascii (r : Nat) (hr : r < 128) (w : World) (hT : Tab w) : Calls Tryd.prog 16 #[.int .i32 r] w fun e w' => e = .returned (.int .i32 (foldA r)) ∧ w' = w := by
  have hc := hT.fold r hr
  clear hT
  have hf : foldA r < 65536 := by unfold foldA; (repeat' split) <;> omega
  have hr' : (r : Int) < 128 := by omega
  go_enter Tryd.func16, Tryd.ntmps16
  go_wp2
  go_ret
  refine ⟨?_, rfl⟩
  rfl
set_option maxRecDepth 100000 in
set_option maxHeartbeats 2000000 in
theorem fold_8490 (w : World) (hT : Tab w) : Calls Tryd.prog 16 #[.int .i32 8490] w fun e w' => e = .returned (.int .i32 75) ∧ w' = w := by
  obtain ⟨blk, off, cap, hs, ho⟩ := hT.orb
  clear hT
  have c47 : w.cell? ⟨blk, off + 94, none⟩ = some (.int .u16 966) := (ho 47 (by omega)).1
  have c71 : w.cell? ⟨blk, off + 142, none⟩ = some (.int .u16 7296) := (ho 71 (by omega)).1
  have c83 : w.cell? ⟨blk, off + 166, none⟩ = some (.int .u16 7838) := (ho 83 (by omega)).1
  have c86 : w.cell? ⟨blk, off + 172, none⟩ = some (.int .u16 8163) := (ho 86 (by omega)).1
  have c87 : w.cell? ⟨blk, off + 174, none⟩ = some (.int .u16 8486) := (ho 87 (by omega)).1
  have c88 : w.cell? ⟨blk, off + 176, none⟩ = some (.int .u16 8490) := (ho 88 (by omega)).1
  have c89 : w.cell? ⟨blk, off + 178, none⟩ = some (.int .u16 8491) := (ho 89 (by omega)).1
  have d88 : w.cell? ⟨blk, off + 177, none⟩ = some (.int .u16 75) := (ho 88 (by omega)).2
  clear ho
  go_enter Tryd.func16, Tryd.ntmps16
  go_wp2
  go_rounds 9
  go_ret
  exact ⟨rfl, rfl⟩
set_option maxRecDepth 100000 in
set_option maxHeartbeats 2000000 in
theorem fold_383 (w : World) (hT : Tab w) : Calls Tryd.prog 16 #[.int .i32 383] w fun e w' => e = .returned (.int .i32 83) ∧ w' = w := by
  obtain ⟨blk, off, cap, hs, ho⟩ := hT.orb
  clear hT
  have c5 : w.cell? ⟨blk, off + 10, none⟩ = some (.int .u16 197) := (ho 5 (by omega)).1
  have c8 : w.cell? ⟨blk, off + 16, none⟩ = some (.int .u16 304) := (ho 8 (by omega)).1
  have c9 : w.cell? ⟨blk, off + 18, none⟩ = some (.int .u16 305) := (ho 9 (by omega)).1
  have c10 : w.cell? ⟨blk, off + 20, none⟩ = some (.int .u16 383) := (ho 10 (by omega)).1
  have c11 : w.cell? ⟨blk, off + 22, none⟩ = some (.int .u16 452) := (ho 11 (by omega)).1
  have c23 : w.cell? ⟨blk, off + 46, none⟩ = some (.int .u16 837) := (ho 23 (by omega)).1
  have c47 : w.cell? ⟨blk, off + 94, none⟩ = some (.int .u16 966) := (ho 47 (by omega)).1
  have d10 : w.cell? ⟨blk, off + 21, none⟩ = some (.int .u16 83) := (ho 10 (by omega)).2
  clear ho
  go_enter Tryd.func16, Tryd.ntmps16
  go_wp2
  go_rounds 9
  go_ret
  exact ⟨rfl, rfl⟩
end Go.Proofs.Qxb6612396aDoor
