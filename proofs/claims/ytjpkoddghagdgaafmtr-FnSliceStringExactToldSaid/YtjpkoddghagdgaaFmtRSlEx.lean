/-
  FnSliceStringExact returns true for every base text and every optional bounds, and no argument turns. Conditions: none.
-/
import Derived.Test.YtjpkoddghagdgaaFmtRSlExW
namespace Go.Proofs.YtjpkoddghagdgaaFmtR
open Go.RowKit Go.Extern.Stop Go.Stop Go.Extern
open Go.ChangeShapes Go.WideShapes Go.ChangeAt Go.Kit

theorem slice_exact_wf : Rows.fnSliceStringExactRow.wf (OpenSpec.ofChange Rows.fnSliceStringExactSpec) = true := by kernel_rfl
theorem slice_exact_tie : namedTie Tryf.pinned.checked.prog Rows.fnSliceStringExactRow.namedList (OpenSpec.ofChange Rows.fnSliceStringExactSpec).vars = true := by kernel_rfl
theorem slice_exact_fn : Tryf.pinned.checked.prog.funcNamed Rows.fnSliceStringExactRow.func = some 8 := by kernel_rfl
theorem slice_exact_rd : (Tryf.f8.params.toList.all fun t => Tryf.pinned.checked.prog.readableRec t) = true := by kernel_rfl
theorem slice_exact_inst : Tryf.f8.isInstance Tryf.pinned.checked.prog Rows.fnSliceStringExactRow.origin Rows.fnSliceStringExactRow.targs := of_decide_eq_true (by kernel_rfl)
theorem slice_exact_wrap : Tryf.f8.isWrapper Tryf.pinned.checked.prog Rows.fnSliceStringExactRow.wrapper Rows.fnSliceStringExactRow.mainSum := of_decide_eq_true (by kernel_rfl)
theorem slice_exact_in : Rows.fnSliceStringExactRow.inPlace = Tryf.pinned.checked.prog.inPlace 8 := by kernel_rfl
theorem slice_exact_un : Rows.fnSliceStringExactRow.unfollowed = Tryf.pinned.checked.prog.unfollowed 8 := by kernel_rfl
theorem slice_exact_re : Rows.fnSliceStringExactRow.recurses = Tryf.pinned.checked.prog.recurses 8 := by kernel_rfl
theorem slice_exact_nm : Rows.fnSliceStringExactRow.named = Tryf.pinned.checked.prog.varsNamed 8 := by kernel_rfl
theorem slice_exact_fun : (Tryf.f8.params.toList.all fun t => !Tryf.pinned.checked.prog.wantsStandIn t) = true := by kernel_rfl
theorem slice_exact_goes : false = Rows.fnSliceStringExactRow.goesBy Tryf.pinned.checked.prog := by kernel_rfl
theorem slice_exact_vl : Rows.fnSliceStringExactRow.veiled = ((Tryf.f8.params.toList ++ (OpenSpec.ofChange Rows.fnSliceStringExactSpec).bare.plain.varTypes Tryf.pinned.checked.prog ++ Tryf.f8.resultTypes.toList).any (Tryf.pinned.checked.prog.veiledRec ·)) := by kernel_rfl
theorem slice_exact_vf : Rows.fnSliceStringExactRow.veiledFits Tryf.pinned.checked.prog Tryf.f8.params.toList (Tryf.f8.params.toList ++ (OpenSpec.ofChange Rows.fnSliceStringExactSpec).bare.plain.varTypes Tryf.pinned.checked.prog ++ Tryf.f8.resultTypes.toList) = true := by kernel_rfl
theorem slice_exact_init : Tryf.checked.prog.inits.idxOf? 8 = none := by kernel_rfl
theorem slice_exact_ts : Tryf.f8.params.toList = [9, 9, 9, 4, 4] := by kernel_rfl
theorem slice_exact_rt : Tryf.f8.resultTypes = #[4] := by kernel_rfl

set_option maxRecDepth 100000 in
theorem slice_exact_lifted (os : Os) (started : os.Started) (H : Type) (enc : TypeId × Value → H) :
    ReturnsInTold none {} Tryf.checked os 8 .any Input.okWide ((OpenSpec.ofChange Rows.fnSliceStringExactSpec).preRow enc Tryf.checked.prog Tryf.f8 [] false []) (fun F => ((OpenSpec.ofChange Rows.fnSliceStringExactSpec).at F).post enc Tryf.checked.prog Tryf.f8 false true false false) (aloneAtReturn Tryf.checked.prog) nothingAlways := by
  refine law_lifted 8 Tryf.f8 [9, 9, 9, 4, 4] slice_exact_ts slice_exact_rt rfl ?_ (reads_all _ (by decide)) slice_exact_init Tryf.func8 os started H enc
    (OpenSpec.witness_stopped (enc := enc) (C := Tryf.checked) false ⟨#[], #[.string ⟨#[]⟩, .string ⟨#[]⟩, .string ⟨#[]⟩, .bool false, .bool false], []⟩ 8 (by kernel_rfl) (by kernel_rfl) (by kernel_rfl) (by kernel_rfl)) ?_
  · intro H ds hd
    match ds, hd with
    | [d1, d2, d3, d4, d5], _ => rfl
  · intro F W base args ds ps hF hval hA hlt hsz
    exact slice_exact_contract F W base args ds ps hF hval hA hlt hsz

set_option maxHeartbeats 1000000 in
set_option maxRecDepth 100000 in
theorem slice_exact : Rows.FnSliceStringExactToldSaid :=
  Claim7.holds_of_told_any 8 Tryf.f8 "fmt.Sprintf" [] [] _ _ _ slice_exact_wf rfl rfl rfl Tryf.laidOut Tryf.rowed rfl ⟨rfl, rfl, rfl, rfl, rfl, rfl, rfl⟩ rfl rfl slice_exact_tie slice_exact_fn Tryf.func8 slice_exact_rd
    slice_exact_inst slice_exact_wrap Tryf.stops.symm rfl Tryf.stopKnobs.symm Tryf.worded
    slice_exact_in slice_exact_un slice_exact_re slice_exact_nm (by as_aux_lemma => kernel_rfl) (by as_aux_lemma => kernel_rfl) (by as_aux_lemma => kernel_rfl) (by as_aux_lemma => kernel_rfl) (by as_aux_lemma => kernel_rfl) rfl (by as_aux_lemma => kernel_rfl) rfl rfl
    rfl rfl
    rfl Tryf.mainIs Tryf.looks slice_exact_fun (by decide) slice_exact_goes
    (OpenClaim.moreEntering_of Tryf.enters (by as_aux_lemma => kernel_rfl) Tryf.heard (by as_aux_lemma => kernel_rfl) (by as_aux_lemma => kernel_rfl) (by as_aux_lemma => kernel_rfl) (by as_aux_lemma => kernel_rfl) Tryf.plainKeys Tryf.liftsFinal Tryf.make)
    ⟨_, WideRow.started_initial, Tryf.quiet _⟩
    (fun os started _ H enc _ => slice_exact_lifted os started H enc)
    ⟨slice_exact_vl, slice_exact_vf⟩

end Go.Proofs.YtjpkoddghagdgaaFmtR
