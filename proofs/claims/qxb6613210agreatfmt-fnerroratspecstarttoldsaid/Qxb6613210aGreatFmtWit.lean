import Derived.Test.Qxb6613210aGreatFmtLaid
import Derived.Lay
import Derived.LaidMore
import Derived.Deep.DeepWitnessRef
import Derived.Stop.Joined
namespace Go.Proofs.Qxb6613210aGreatFmt
open Go.ChangeShapes Go.WideShapes Go.ChangeAt Go.RowKit

/-- The pinned tables' names: the last six of the row's list. -/
def great : List String := (Rows.fnErrorAtSpecStartRow.laid.map (·.1)).drop 8
def greatD : List (String × DataW Unit) := Rows.fnErrorAtSpecStartRow.laid.drop 8
def smallD : List (String × DataW Unit) := Rows.fnErrorAtSpecStartRow.laid.take 8
set_option maxRecDepth 1000000 in
theorem wit_great : (Rows.fnErrorAtSpecStartRow.laid.filter fun x => great.contains x.1) = greatD := by rfl
set_option maxRecDepth 1000000 in
theorem wit_small : (Rows.fnErrorAtSpecStartRow.laid.filter fun x => !great.contains x.1) = smallD := by rfl
set_option maxRecDepth 1000000 in
theorem wit_in (os : Os) : LaidIn Tryz.prog (World.layVars Tryz.prog (World.doorLaid Tryz.prog 400 os) greatD) smallD ((List.range (World.doorLaid Tryz.prog 400 default).heap.size).filter fun i => !(great.map Tryz.prog.globalNamed).contains (some i)) :=
  LaidIn.of_run ((List.range (World.doorLaid Tryz.prog 400 default).heap.size).filter fun i => !(great.map Tryz.prog.globalNamed).contains (some i)) 10 (by kernel_rfl) (by kernel_rfl) (by kernel_rfl) (by kernel_rfl)
set_option maxRecDepth 1000000 in
theorem wit_fits (os : Os) : (World.doorLaid Tryz.prog 400 os).layFits Tryz.prog greatD ((List.range (World.doorLaid Tryz.prog 400 default).heap.size).filter fun i => !(great.map Tryz.prog.globalNamed).contains (some i)) = true := by kernel_rfl
set_option maxRecDepth 1000000 in
theorem wit_ifaces (os : Os) : (World.doorLaid Tryz.prog 400 os).layIfaces Tryz.prog greatD (World.layVars Tryz.prog (World.doorLaid Tryz.prog 400 os) greatD) = true := by kernel_rfl
theorem wit_met (os : Os) (args : Array Value) : laidMetH Tryz.prog Rows.fnErrorAtSpecStartRow.laid ((World.layVars Tryz.prog (World.doorLaid Tryz.prog 400 os) greatD).forCall (fun _ _ => 0) ⟨#[], args, []⟩).memory := by
  rw [MakeChecks.laidMetH_plain _ _ _ (by kernel_rfl)]
  have h : laidMet Tryz.prog Rows.fnErrorAtSpecStartRow.laid (World.layVars Tryz.prog (World.doorLaid Tryz.prog 400 os) greatD) := laidMet_layVars (w0 := World.doorLaid Tryz.prog 400 os) great ((List.range (World.doorLaid Tryz.prog 400 default).heap.size).filter fun i => !(great.map Tryz.prog.globalNamed).contains (some i)) (by rw [wit_great]) (by rw [wit_great]; exact wit_fits os) (by rw [wit_great]; exact wit_ifaces os) (by rw [wit_small]; exact wit_in os)
  exact h.of_heap (by simp [World.memory, World.forCall, Input.heap])
theorem wit_os (os : Os) : (World.layVars Tryz.prog (World.doorLaid Tryz.prog 400 os) greatD).os = os := by
  rw [World.layVars_os]; rfl
set_option maxRecDepth 1000000 in
theorem wit_row (os : Os) {H : Type} (enc : TypeId × Value → H) :
    (OpenSpec.ofChange Rows.fnErrorAtSpecStartSpec).preRow enc Tryz.prog Tryz.f3 Rows.fnErrorAtSpecStartRow.domain false Rows.fnErrorAtSpecStartRow.laid ((World.layVars Tryz.prog (World.doorLaid Tryz.prog 400 os) greatD).forCall (fun _ _ => 0) ⟨#[], #[.string ⟨#[]⟩, .int .i64 0, .string ⟨#[]⟩], []⟩).memory #[.string ⟨#[]⟩, .int .i64 0, .string ⟨#[]⟩] := by
  have hw : (DataW.whole enc Tryz.prog ((World.layVars Tryz.prog (World.doorLaid Tryz.prog 400 os) greatD).forCall (fun _ _ => 0) ⟨#[], #[.string ⟨#[]⟩, .int .i64 0, .string ⟨#[]⟩], []⟩).memory Tryz.f3.params.toList (OpenSpec.ofChange Rows.fnErrorAtSpecStartSpec).vars false #[Value.string ⟨#[]⟩, .int .i64 0, .string ⟨#[]⟩].toList 10).isSome = true := by kernel_rfl
  obtain ⟨x, hx⟩ := Option.isSome_iff_exists.1 hw
  exact OpenSpec.preRow_of_cond 10 hx rfl (fun k hk => by cases hk) (by kernel_rfl) (wit_met os _)
end Go.Proofs.Qxb6613210aGreatFmt
