import Derived.Test.Qxb6613210aGreatFmtChecked
import Derived.Stop.CallBack
import Derived.Stop.IfaceNil
import GoSem.ClaimData
import Derived.WalkKit
import Derived.WalkSpells
import Derived.Deep.RegionWith
namespace Go.Proofs.Qxb6613210aGreatFmt
open Go.RowKit Go.Extern.Stop Go.Stop Go.Extern

theorem call34 (args : Array Value) (w : World) : (callFunc 34 args).run Tryz.prog w = (FmtCalls.sprintf #[9, 100] #[9] args).run Tryz.prog w :=
  run_callFunc_next Tryz.func34 (by kernel_rfl) (by kernel_rfl) (by kernel_rfl) args w
theorem guard34 (name : String) (w : World) : (FmtStop.guard name).run Tryz.prog w = .ok () w := by kernel_rfl
theorem nextTurns : Extern.next FmtCalls.turnsRow = some (FmtCalls.begun #[] #[]) := by kernel_rfl
def shape9 : List UInt8 := [12, 6, 0, 0, 0, 0, 0, 0, 0, 115, 116, 114, 105, 110, 103]
theorem act9_113 (name : String) (x : Value) (w : World) : (FmtCalls.act name false 113 false (.iface 9 x)).run Tryz.prog w = .ok (.closed false) w := by kernel_rfl
theorem op9_113 (name : String) (x : ByteArray) (w : World) : (FmtStop.operand name false 113 false (.iface 9 (.string x))).run Tryz.prog w = .ok (shape9, FmtStop.pack x.data.toList) w := by kernel_rfl
theorem act9_115 (name : String) (x : Value) (w : World) : (FmtCalls.act name false 115 false (.iface 9 x)).run Tryz.prog w = .ok (.closed false) w := by kernel_rfl
theorem op9_115 (name : String) (x : ByteArray) (w : World) : (FmtStop.operand name false 115 false (.iface 9 (.string x))).run Tryz.prog w = .ok (shape9, FmtStop.pack x.data.toList) w := by kernel_rfl

/-- What fmt.Sprintf does at this format and these operands, in every world that holds them as w does. -/
def Spf (f : ByteArray) (v : Value) (w : World) : Prop :=
  ∃ saved, (∀ W, (callFunc 34 #[.string f, v]).run Tryz.prog W = .ok (.row FmtCalls.turnsRow saved) W) ∧
    ∃ t : ByteArray, ∀ W, W.tape = w.tape → (∀ a : Addr, a.block < w.heap.size → W.cell? a = w.cell? a) → (FmtCalls.begun #[] #[] saved).run Tryz.prog W = .ok (.value (.string t)) W.drew
theorem Spf.below {f : ByteArray} {v : Value} {w w' : World} (h : Spf f v w) (hb : Below w.heap.size w w') : Spf f v w' := by
  obtain ⟨sv, h1, t, h2⟩ := h
  exact ⟨sv, h1, t, fun W ht hc => h2 W (ht.trans hb.tape) (fun a ha => (hc a (by have := hb.size; omega)).trans (hb.cell ha))⟩

abbrev fHex : ByteArray := ⟨#[116, 104, 101, 32, 110, 117, 109, 98, 101, 114, 32, 37, 113, 32, 104, 97, 115, 32, 110, 111, 32, 104, 101, 120, 32, 100, 105, 103, 105, 116, 115]⟩
theorem fHex_p : FmtStop.printed? fHex 1 = some [(0, 113, false)] := by kernel_rfl
theorem fHex_r (w : World) : (FmtDoors.printed fHex 1).run Tryz.prog w = .ok [(0, 113, false)] w := by kernel_rfl
abbrev fOct : ByteArray := ⟨#[116, 104, 101, 32, 111, 99, 116, 97, 108, 32, 110, 117, 109, 98, 101, 114, 32, 37, 113, 32, 104, 97, 115, 32, 97, 32, 100, 105, 103, 105, 116, 32, 116, 104, 97, 116, 32, 105, 115, 32, 110, 111, 116, 32, 111, 99, 116, 97, 108]⟩
theorem fOct_p : FmtStop.printed? fOct 1 = some [(0, 113, false)] := by kernel_rfl
theorem fOct_r (w : World) : (FmtDoors.printed fOct 1).run Tryz.prog w = .ok [(0, 113, false)] w := by kernel_rfl
abbrev fFit : ByteArray := ⟨#[116, 104, 101, 32, 110, 117, 109, 98, 101, 114, 32, 37, 113, 32, 100, 111, 101, 115, 32, 110, 111, 116, 32, 102, 105, 116, 32, 105, 110, 32, 54, 52, 32, 98, 105, 116, 115]⟩
theorem fFit_p : FmtStop.printed? fFit 1 = some [(0, 113, false)] := by kernel_rfl
theorem fFit_r (w : World) : (FmtDoors.printed fFit 1).run Tryz.prog w = .ok [(0, 113, false)] w := by kernel_rfl
abbrev fChr : ByteArray := ⟨#[117, 110, 101, 120, 112, 101, 99, 116, 101, 100, 32, 99, 104, 97, 114, 97, 99, 116, 101, 114, 32, 37, 113]⟩
theorem fChr_p : FmtStop.printed? fChr 1 = some [(0, 113, false)] := by kernel_rfl
theorem fChr_r (w : World) : (FmtDoors.printed fChr 1).run Tryz.prog w = .ok [(0, 113, false)] w := by kernel_rfl
abbrev fStr : ByteArray := ⟨#[37, 115]⟩
theorem fStr_p : FmtStop.printed? fStr 1 = some [(0, 115, false)] := by kernel_rfl
theorem fStr_r (w : World) : (FmtDoors.printed fStr 1).run Tryz.prog w = .ok [(0, 115, false)] w := by kernel_rfl
abbrev fNam : ByteArray := ⟨#[116, 104, 101, 32, 108, 105, 110, 101, 32, 101, 110, 100, 115, 32, 105, 110, 115, 105, 100, 101, 32, 97, 32, 113, 117, 111, 116, 101, 100, 32, 110, 97, 109, 101]⟩
theorem fNam_p : FmtStop.printed? fNam 0 = some [] := by kernel_rfl
theorem fNam_r (w : World) : (FmtDoors.printed fNam 0).run Tryz.prog w = .ok [] w := by kernel_rfl
attribute [local go_sem] call34 guard34 act9_113 op9_113 act9_115 op9_115 fNam_p fNam_r fHex_p fHex_r fOct_p fOct_r fFit_p fFit_r fChr_p fChr_r fStr_p fStr_r

set_option maxHeartbeats 400000 in
theorem spf_fNam (F : Interp) (w : World) (hF : F.answers w.tape) : Spf fNam (.slice none 0 0) w := by
  have hF' := answers_open hF
  refine ⟨FmtCalls.save 0 0 (.slice none 0 0) fNam [] [], fun W => by go_simp, FmtStop.textOf (F "fmt.Sprintf" [fNam.data.toList] 0), fun W ht hcs => ?_⟩
  rw [← ht] at hF'
  clear hcs ht
  go_simp
set_option maxHeartbeats 400000 in
theorem spf_fHex (F : Interp) (s : ByteArray) (blk : Nat) (w : World) (hF : F.answers w.tape) (hc : w.cell? ⟨blk, 0, none⟩ = some (.iface 9 (.string s))) :
    Spf fHex (.slice (some ⟨blk, 0, none⟩) 1 1) w := by
  have hF' := answers_open hF
  have hb : blk < w.heap.size := World.block_lt_of_cell? _ _ hc
  refine ⟨FmtCalls.save 0 0 (.slice (some ⟨blk, 0, none⟩) 1 1) fHex [] [(0, 113, false)], fun W => by go_simp, FmtStop.textOf (F "fmt.Sprintf" [fHex.data.toList, shape9, FmtStop.pack s.data.toList] 0), fun W ht hcs => ?_⟩
  have hc' : W.cell? ⟨blk, 0, none⟩ = some (.iface 9 (.string s)) := (hcs _ hb).trans hc
  rw [← ht] at hF'
  clear hcs hc ht
  go_simp
set_option maxHeartbeats 400000 in
theorem spf_fOct (F : Interp) (s : ByteArray) (blk : Nat) (w : World) (hF : F.answers w.tape) (hc : w.cell? ⟨blk, 0, none⟩ = some (.iface 9 (.string s))) :
    Spf fOct (.slice (some ⟨blk, 0, none⟩) 1 1) w := by
  have hF' := answers_open hF
  have hb : blk < w.heap.size := World.block_lt_of_cell? _ _ hc
  refine ⟨FmtCalls.save 0 0 (.slice (some ⟨blk, 0, none⟩) 1 1) fOct [] [(0, 113, false)], fun W => by go_simp, FmtStop.textOf (F "fmt.Sprintf" [fOct.data.toList, shape9, FmtStop.pack s.data.toList] 0), fun W ht hcs => ?_⟩
  have hc' : W.cell? ⟨blk, 0, none⟩ = some (.iface 9 (.string s)) := (hcs _ hb).trans hc
  rw [← ht] at hF'
  clear hcs hc ht
  go_simp
set_option maxHeartbeats 400000 in
theorem spf_fFit (F : Interp) (s : ByteArray) (blk : Nat) (w : World) (hF : F.answers w.tape) (hc : w.cell? ⟨blk, 0, none⟩ = some (.iface 9 (.string s))) :
    Spf fFit (.slice (some ⟨blk, 0, none⟩) 1 1) w := by
  have hF' := answers_open hF
  have hb : blk < w.heap.size := World.block_lt_of_cell? _ _ hc
  refine ⟨FmtCalls.save 0 0 (.slice (some ⟨blk, 0, none⟩) 1 1) fFit [] [(0, 113, false)], fun W => by go_simp, FmtStop.textOf (F "fmt.Sprintf" [fFit.data.toList, shape9, FmtStop.pack s.data.toList] 0), fun W ht hcs => ?_⟩
  have hc' : W.cell? ⟨blk, 0, none⟩ = some (.iface 9 (.string s)) := (hcs _ hb).trans hc
  rw [← ht] at hF'
  clear hcs hc ht
  go_simp
set_option maxHeartbeats 400000 in
theorem spf_fChr (F : Interp) (s : ByteArray) (blk : Nat) (w : World) (hF : F.answers w.tape) (hc : w.cell? ⟨blk, 0, none⟩ = some (.iface 9 (.string s))) :
    Spf fChr (.slice (some ⟨blk, 0, none⟩) 1 1) w := by
  have hF' := answers_open hF
  have hb : blk < w.heap.size := World.block_lt_of_cell? _ _ hc
  refine ⟨FmtCalls.save 0 0 (.slice (some ⟨blk, 0, none⟩) 1 1) fChr [] [(0, 113, false)], fun W => by go_simp, FmtStop.textOf (F "fmt.Sprintf" [fChr.data.toList, shape9, FmtStop.pack s.data.toList] 0), fun W ht hcs => ?_⟩
  have hc' : W.cell? ⟨blk, 0, none⟩ = some (.iface 9 (.string s)) := (hcs _ hb).trans hc
  rw [← ht] at hF'
  clear hcs hc ht
  go_simp
set_option maxHeartbeats 400000 in
theorem spf_fStr (F : Interp) (s : ByteArray) (blk : Nat) (w : World) (hF : F.answers w.tape) (hc : w.cell? ⟨blk, 0, none⟩ = some (.iface 9 (.string s))) :
    Spf fStr (.slice (some ⟨blk, 0, none⟩) 1 1) w := by
  have hF' := answers_open hF
  have hb : blk < w.heap.size := World.block_lt_of_cell? _ _ hc
  refine ⟨FmtCalls.save 0 0 (.slice (some ⟨blk, 0, none⟩) 1 1) fStr [] [(0, 115, false)], fun W => by go_simp, FmtStop.textOf (F "fmt.Sprintf" [fStr.data.toList, shape9, FmtStop.pack s.data.toList] 0), fun W ht hcs => ?_⟩
  have hc' : W.cell? ⟨blk, 0, none⟩ = some (.iface 9 (.string s)) := (hcs _ hb).trans hc
  rw [← ht] at hF'
  clear hcs hc ht
  go_simp
end Go.Proofs.Qxb6613210aGreatFmt
