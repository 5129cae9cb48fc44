import Derived.Test.Qxb6613210aGreatFmtWit
import Derived.Test.Qxb6613210aGreatFmtW19
import Derived.Test.Qxb6613210aGreatFmtTie
import Derived.Test.Qxb6613210aGreatFmtCards
import Derived.OpenVars
import Derived.OpenShut
import Derived.SevenTiedAt
import Derived.Stop.JoinedTold
import Derived.Stop.JoinedAt
namespace Go.Proofs.Qxb6613210aGreatFmt
open Go.ChangeShapes Go.WideShapes Go.ChangeAt Go.RowKit
open Go.ChangeMaps (open_string shut_string)
open Go.Extern.Stop Go.Stop Go.Extern

theorem own : ownKnob Tryz.prog.godebug = none := by kernel_rfl
theorem laidOut : laidOutB Tryz.pinned.checked.prog = true := by kernel_rfl
theorem stops : Tryz.pinned.checked.prog.stops = Rows.fnErrorAtSpecStartRow.stops := by kernel_rfl
theorem stopKnobs : Tryz.pinned.checked.prog.stopKnobs = [] := by kernel_rfl
theorem quiet (os : Os) : Stop.quiet Tryz.pinned.checked.prog os := by
  intro k hk
  rw [stopKnobs] at hk
  cases hk
set_option maxRecDepth 1000000 in
theorem shaped (os : Os) (args : Array Value) : ((World.layVars Tryz.prog (World.doorLaid Tryz.prog 400 os) greatD).forCall (fun _ _ => 0) ⟨#[], args, []⟩).Shaped Tryz.prog :=
  World.shaped_of_ZipB (by kernel_rfl) (by kernel_rfl)
set_option maxRecDepth 1000000 in
theorem okin (os : Os) : Input.okWideB Tryz.prog ((World.layVars Tryz.prog (World.doorLaid Tryz.prog 400 os) greatD).forCall (fun _ _ => 0) ⟨#[], #[.string ⟨#[]⟩, .int .i64 0, .string ⟨#[]⟩], []⟩) 3 ⟨#[], #[.string ⟨#[]⟩, .int .i64 0, .string ⟨#[]⟩], []⟩ = true := by kernel_rfl
theorem witness_any {H : Type} {enc : TypeId × Value → H} {C : Checked} {os : Os} {f : FuncId} {fn : Func} {s : OpenSpec} {conds : List PathCond} {apart : Bool} {laid : List (String × DataW Unit)} (w0 : World) (args : Array Value) (hos : w0.os = os)
    (hsh : (w0.forCall (fun _ _ => 0) ⟨#[], args, []⟩).Shaped C.prog)
    (hok : Input.okWideB C.prog (w0.forCall (fun _ _ => 0) ⟨#[], args, []⟩) f ⟨#[], args, []⟩ = true)
    (hrow : s.preRow enc C.prog fn conds apart laid (w0.forCall (fun _ _ => 0) ⟨#[], args, []⟩).memory args) (F : Stop.Interp) :
    ∃ (w : World) (tape : Tape) (i : Input), w.os = os ∧ (w.forCall tape i).Shaped C.prog ∧ i.vars = [] ∧ Input.okWide C.prog (w.forCall tape i) .any w.heap.size f i ∧
      s.preRow enc C.prog fn conds apart laid (w.forCall tape i).memory i.args ∧ ({} : Assume).holds C.prog (lone (Frame.enter C.prog f i.args .normal) [] (w.forCall tape i)) ∧ F.answers tape :=
  ⟨w0, F.over fun _ _ => 0, ⟨#[], args, []⟩, hos, hsh, (Input.okWide_of_okWideB (base := 0) hok).1, (Input.okWide_of_okWideB hok).2, hrow, by
    simp only [Assume.holds]
    exact ⟨by simp, by simp, fun _ => F.over_modest Modest.zero, by simp, by simp⟩, F.over_answers _⟩
set_option maxRecDepth 100000 in
theorem lifted (os : Os) (started : os.Started) (H : Type) (enc : TypeId × Value → H) :
    ReturnsInTold none {} Tryz.checked os 3 .any Input.okWide ((OpenSpec.ofChange Rows.fnErrorAtSpecStartSpec).preRow enc Tryz.prog Tryz.f3 Rows.fnErrorAtSpecStartRow.domain false Rows.fnErrorAtSpecStartRow.laid)
      (fun F => ((OpenSpec.ofChange Rows.fnErrorAtSpecStartSpec).at F).post enc Tryz.prog Tryz.f3 false true false false) (aloneAtReturn Tryz.prog) nothingAlways := by
  refine returnsInTold_of_row (C := Tryz.checked) (s := OpenSpec.ofChange Rows.fnErrorAtSpecStartSpec) (by kernel_rfl) own started (by kernel_rfl) Tryz.func3
    (witness_any (World.layVars Tryz.prog (World.doorLaid Tryz.prog 400 os) greatD) _ (wit_os os) (shaped os _) (okin os) (wit_row os enc)) ?_
  intro F W base args ds gs before _ hF hval0 hW hcnd0 _ _ hL _
  have hval : ∀ (j : Nat) t v, Tryz.f3.params[j]? = some t → args[j]? = some v → Value.okWide Tryz.prog W .any base t v := hval0
  have hW' := hW
  obtain ⟨p, q, hA0, hV0, rfl, _, _⟩ := hW
  have hA : DataW.TrodAll enc Tryz.prog W 0 (fun _ => true) true Tryz.f3.params.toList args.toList ds p := hA0
  rw [Tryz.params3] at hA hval
  obtain ⟨v0, v1, v2, d0, d1, d2, p0, p1, p2, rfl, rfl, rfl, h0, h1, h2⟩ := trodAll_three hA
  obtain ⟨s, rfl, rfl, rfl, ws⟩ := open_string Tryz.underlying9 (hval 0 9 v0 rfl rfl) h0
  obtain ⟨n, rfl, rfl, rfl, wn⟩ := open_int Tryz.underlying3 (hval 1 3 v1 rfl rfl) h1
  obtain ⟨m, rfl, rfl, rfl, wm⟩ := open_string Tryz.underlying9 (hval 2 9 v2 rfl rfl) h2
  have hL' : laidMet Tryz.prog Rows.fnErrorAtSpecStartRow.laid W := by
    rw [MakeChecks.laidMetH_plain _ _ _ (by kernel_rfl)] at hL; exact hL
  have hV : DataW.TrodVars enc Tryz.prog W (fun _ => true) (OpenSpec.ofChange Rows.fnErrorAtSpecStartSpec).vars gs q := hV0
  obtain ⟨g0, t0, cs0, f0, e0, p0, g1, t1, cs1, f1, e1, p1, rfl, _⟩ := trodVars_two hV
  refine (law_any F.told s m n W (env_of F.told W hF hL')).mono ?_
  rintro e W' ⟨rfl, bel⟩
  have hV' := bel.trodVars (enc := enc) laidOut (by kernel_rfl) hV
  refine ⟨_, rfl, _, _, _, [], [], q, hW', ?_, ?_, ?_, bel.frame _, fun h => by cases h⟩
  · exact trodAll_mk1 (shut_bool Tryz.underlying4 _)
  · exact trodAll_mk3 (shut_string Tryz.underlying9 ws) (shut_int Tryz.underlying3 wn) (shut_string Tryz.underlying9 wm)
  · exact hV'
theorem holds_told : Rows.FnErrorAtSpecStartToldSaid :=
  Claim7.holds_of_told_tied_any_at .later 3 Tryz.f3 (Rows.fnErrorAtSpecStartRow.stops.headD "") [] [] _ _ _ _ _ (by kernel_rfl) rfl rfl rfl laidOut (by kernel_rfl) rfl ⟨rfl, rfl, rfl, rfl, rfl, rfl, rfl⟩ rfl rfl (by kernel_rfl) (by kernel_rfl) Tryz.func3 (by kernel_rfl)
    (of_decide_eq_true (by kernel_rfl)) (of_decide_eq_true (by kernel_rfl)) stops.symm rfl stopKnobs.symm (by kernel_rfl)
    (by kernel_rfl) (by kernel_rfl) (by kernel_rfl) (by kernel_rfl) (by kernel_rfl) (by kernel_rfl) (by kernel_rfl) (by kernel_rfl) (by kernel_rfl) rfl (by kernel_rfl) rfl rfl
    rfl rfl
    rfl (by kernel_rfl) (by kernel_rfl) (by kernel_rfl) (by decide) (by kernel_rfl) fnErrorAtSpecStart_row_tie
    (OpenClaim.moreEntering_of (by kernel_rfl) (by kernel_rfl) (by kernel_rfl) (by kernel_rfl) (by kernel_rfl) (by kernel_rfl) (by kernel_rfl) (by kernel_rfl) (by kernel_rfl) (by kernel_rfl))
    ⟨_, WideRow.started_initial, quiet _⟩
    (fun os started _ H enc _ => lifted os started H enc)
end Go.Proofs.Qxb6613210aGreatFmt
