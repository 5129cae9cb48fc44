import Derived.Test.Qxb6613227aDoorTie
import Derived.Test.Qxb6613227aDoorCards
import Derived.Test.Qxb6613227aDoorW4
import Derived.Test.Qxb6613227aDoorShelf
import Derived.ProofKit
import Derived.OpenShut
import Derived.LaidMore
import Derived.Lay
import Derived.SevenTiedAt
import Derived.Stop.Joined
import Derived.Lib.LaidU8
import Derived.Lib.RuneCountTail
namespace Go.Proofs.Qxb6613227aDoor
open Go.ChangeShapes Go.WideShapes Go.ChangeAt Go.RowKit Go.Lib
open Go.ChangeMaps (open_string shut_string)

theorem own : ownKnob Tryd.prog.godebug = none := by kernel_rfl
set_option maxRecDepth 100000 in
theorem first_eq : Go.Pinned.utf8First = firstData := by kernel_rfl
/-- The decoder decodes, where its two tables are laid. -/
theorem decs_of {W : World} (hL : laidMet Tryd.prog Rows.fnQuoteWithinPlainExactRow.laid W) (s : ByteArray) : Decs s W := by
  have hT : Lib.Utf8Tabs 0 1 W := utf8Tabs_of_reads (ρ := Tryd.lays260_ren) Tryd.lays260 ⟨by kernel_rfl, by kernel_rfl, by kernel_rfl, by kernel_rfl, by kernel_rfl, by kernel_rfl, by kernel_rfl⟩
    (first_eq ▸ laidMet.reads hL (List.mem_of_getElem? (i := 1) rfl)) (laidMet.reads hL (List.mem_of_getElem? (i := 0) rfl))
  intro k wx hk hb
  have := Tryd.utf8_DecodeRuneInString (s.extract k s.size) wx (Utf8Tabs_below hT hb)
  rwa [show Lib.decodeGo (s.extract k s.size) = Utf8.decode s k by unfold Lib.decodeGo; rw [if_neg (by rw [Lib.tail_size]; omega), Lib.tail_decode, Nat.add_zero]] at this
set_option maxRecDepth 100000 in
theorem lifted (os : Os) (started : os.Started) (H : Type) (enc : TypeId × Value → H) :
    ReturnsInHanded {} Tryd.checked os 3 .any (fun w args => (Rows.fnQuoteWithinPlainExactSpec.pre enc Tryd.prog Tryd.f3 Rows.fnQuoteWithinPlainExactRow.domain false w args ∧ laidMetH Tryd.prog Rows.fnQuoteWithinPlainExactRow.laid w) ∧ sizedMet enc Tryd.prog Tryd.f3 (OpenSpec.ofChange Rows.fnQuoteWithinPlainExactSpec) false w args)
      (Rows.fnQuoteWithinPlainExactSpec.post enc Tryd.prog Tryd.f3 false true false false) := by
  refine returnsInHanded_of_change_and (C := Tryd.checked) (X := fun w _ => laidMetH Tryd.prog Rows.fnQuoteWithinPlainExactRow.laid w) (fun _ _ _ hh h => h.of_heap hh) own started (by kernel_rfl) Tryd.func3
    (ChangeSpec.witness_shaped (enc := enc) (C := Tryd.checked) (os := os) (X := fun w _ => laidMetH Tryd.prog Rows.fnQuoteWithinPlainExactRow.laid w) false (World.laidAll Tryd.prog os Rows.fnQuoteWithinPlainExactRow.laid) #[.string ⟨#[]⟩, .int .i64 0] 8 (World.laidAll_os _ _ _)
      (World.shaped_of_ZipB (by kernel_rfl) (by kernel_rfl)) (by kernel_rfl) (by kernel_rfl) (by kernel_rfl)
      (by rw [MakeChecks.laidMetH_plain _ _ _ (by kernel_rfl)]; exact laidMet_laidAll _ (by kernel_rfl) (by kernel_rfl))) ?_
  intro W base args ds gs before hval0 hW hc _ hL _
  rw [MakeChecks.laidMetH_plain _ _ _ (by kernel_rfl)] at hL
  have hval : ∀ (j : Nat) t v, Tryd.f3.params[j]? = some t → args[j]? = some v → Value.okWide Tryd.prog W .any base t v := hval0
  have hW' := hW
  obtain ⟨p, q, hA0, hV, rfl, _, _⟩ := hW
  have hA : DataW.TrodAll enc Tryd.prog W 0 (fun _ => true) true Tryd.f3.params.toList args.toList ds p := hA0
  rw [Tryd.params3] at hA hval
  obtain ⟨v0, v1, d0, d1, p0, p1, rfl, rfl, rfl, h0, h1⟩ := trodAll_two hA
  obtain ⟨rfl, rfl⟩ := trodVars_none hV
  obtain ⟨s, rfl, rfl, rfl, ws⟩ := open_string Tryd.underlying9 (hval 0 9 v0 rfl rfl) h0
  obtain ⟨n, rfl, rfl, rfl, wn⟩ := open_int Tryd.underlying3 (hval 1 3 v1 rfl rfl) h1
  simp only [List.append_nil] at hW'
  refine (law_any s n W (decs_of hL s)).mono ?_
  rintro e W' ⟨rfl, bel⟩
  refine ⟨_, rfl, _, _, _, [], [], [], hW', ?_, ?_, ?_, bel.frame _, fun h => by cases h⟩
  · exact trodAll_mk1 (shut_bool Tryd.underlying4 _)
  · exact trodAll_mk2 (shut_string Tryd.underlying9 ws) (shut_int Tryd.underlying3 wn)
  · rfl
theorem holds_row : Rows.FnQuoteWithinPlainExactSaid :=
  OpenClaim.holds_of_wide 3 Tryd.f3 rfl rfl rfl rfl rfl rfl rfl ⟨rfl, rfl, rfl, rfl, rfl⟩ rfl rfl rfl rfl rfl (by kernel_rfl) Tryd.func3 (by kernel_rfl)
    (of_decide_eq_true (by kernel_rfl)) (by unfold Func.isWrapper; first | (rw [if_pos (by decide +kernel)]; kernel_rfl) | (rw [if_neg (by decide +kernel)]; exact ⟨rfl, rfl⟩))
    (fun os started H enc _ => lifted os started H enc)
theorem holds_card : Rows.FnQuoteWithinPlainExactCardSaid :=
  Claim7.holds_tied_plain_at .later [] [.data, .pinned] true Rows.fnQuoteWithinPlainExactCard.stood.harness false holds_row (fun _ h => by cases h) (by kernel_rfl) (fun _ h => by cases h) fnQuoteWithinPlainExact_row_tie rfl ⟨rfl, rfl⟩ (by kernel_rfl) rfl
    (fun f fn hf hfn => by
      obtain rfl : f = 3 := Option.some.inj ((show Tryd.prog.funcNamed Rows.fnQuoteWithinPlainExactRow.func = some 3 by kernel_rfl).symm.trans hf) |>.symm
      obtain rfl : fn = Tryd.f3 := (Option.some.inj (Tryd.func3.symm.trans hfn)).symm
      exact ⟨by kernel_rfl, fun j t ht => by
        rw [Tryd.params3] at ht
        have hm : t ∈ [9, 3] := by simpa using Array.mem_of_getElem? ht
        have hall : ([9, 3].all fun u => !Tryd.prog.wantsStandIn u) = true := by kernel_rfl
        exact (show Tryd.prog.wantsStandIn t = false by simpa using List.all_eq_true.1 hall t hm)⟩)
    (by kernel_rfl)
end Go.Proofs.Qxb6613227aDoor
