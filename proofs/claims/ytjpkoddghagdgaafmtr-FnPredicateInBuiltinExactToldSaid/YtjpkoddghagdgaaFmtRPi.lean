/-
  FnPredicateInBuiltinExact returns true for every name, collection, callee and list of texts, and no argument turns. Conditions: none.
-/
import Derived.Test.YtjpkoddghagdgaaFmtRPdE
namespace Go.Proofs.YtjpkoddghagdgaaFmtR
open Go.RowKit Go.Extern.Stop Go.Stop Go.Extern
open Go.ChangeShapes Go.WideShapes Go.ChangeAt Go.Kit
open Go.ChangeMaps (open_string shut_string)

set_option maxRecDepth 100000 in
theorem predicate_in_builtin_contract {H : Type} {enc : TypeId × Value → H} (F : Interp) (W : World) (base : Nat) (args : Array Value) (ds : List (DataW H)) (ps : List MemPlace) (hF : F.told.answers W.tape)
    (hval : ∀ (j : Nat) t v, ([9, 9, 9, 57] : List TypeId)[j]? = some t → args[j]? = some v → Value.okWide Tryf.prog W .any base t v)
    (hA : DataW.TrodAll enc Tryf.prog W 0 (fun _ => true) true [9, 9, 9, 57] args.toList ds ps) (_ : ∀ x ∈ ps, x.block < W.heap.size)
    (_ : (DataW.weightsEach Tryf.prog [9, 9, 9, 57] ds).all (· ≤ reachBytes) = true) :
    Calls Tryf.prog 6 args W fun e W' => e = .returned (.bool true) ∧ Below W.heap.size W W' := by
  obtain ⟨v0, v1, v2, v3, d0, d1, d2, d3, p0, p1, p2, p3, rfl, rfl, rfl, h0, h1, h2, h3⟩ := trodAll_four hA
  obtain ⟨name, rfl, rfl, rfl, hn⟩ := open_string Tryf.underlying9 (hval 0 9 v0 rfl rfl) h0
  obtain ⟨coll, rfl, rfl, rfl, hc⟩ := open_string Tryf.underlying9 (hval 1 9 v1 rfl rfl) h1
  obtain ⟨s, rfl, rfl, rfl, hs⟩ := open_string Tryf.underlying9 (hval 2 9 v2 rfl rfl) h2
  obtain ⟨a, c, b, o, xs, rfl, hx⟩ := open_strs (hval 3 57 v3 rfl rfl) h3
  by_cases h4 : xs.length ≤ 4096
  · exact b6_yes F name coll s a c b o xs W hF hn hc hs h4 hx
  · exact b6_long name coll s a c b o xs W hn hc hs (by omega) hx


theorem predicate_in_builtin_wf : Rows.fnPredicateInBuiltinExactRow.wf (OpenSpec.ofChange Rows.fnPredicateInBuiltinExactSpec) = true := by kernel_rfl
theorem predicate_in_builtin_tie : namedTie Tryf.pinned.checked.prog Rows.fnPredicateInBuiltinExactRow.namedList (OpenSpec.ofChange Rows.fnPredicateInBuiltinExactSpec).vars = true := by kernel_rfl
theorem predicate_in_builtin_fn : Tryf.pinned.checked.prog.funcNamed Rows.fnPredicateInBuiltinExactRow.func = some 6 := by kernel_rfl
theorem predicate_in_builtin_rd : (Tryf.f6.params.toList.all fun t => Tryf.pinned.checked.prog.readableRec t) = true := by kernel_rfl
theorem predicate_in_builtin_inst : Tryf.f6.isInstance Tryf.pinned.checked.prog Rows.fnPredicateInBuiltinExactRow.origin Rows.fnPredicateInBuiltinExactRow.targs := of_decide_eq_true (by kernel_rfl)
theorem predicate_in_builtin_wrap : Tryf.f6.isWrapper Tryf.pinned.checked.prog Rows.fnPredicateInBuiltinExactRow.wrapper Rows.fnPredicateInBuiltinExactRow.mainSum := of_decide_eq_true (by kernel_rfl)
theorem predicate_in_builtin_in : Rows.fnPredicateInBuiltinExactRow.inPlace = Tryf.pinned.checked.prog.inPlace 6 := by kernel_rfl
theorem predicate_in_builtin_un : Rows.fnPredicateInBuiltinExactRow.unfollowed = Tryf.pinned.checked.prog.unfollowed 6 := by kernel_rfl
theorem predicate_in_builtin_re : Rows.fnPredicateInBuiltinExactRow.recurses = Tryf.pinned.checked.prog.recurses 6 := by kernel_rfl
theorem predicate_in_builtin_nm : Rows.fnPredicateInBuiltinExactRow.named = Tryf.pinned.checked.prog.varsNamed 6 := by kernel_rfl
theorem predicate_in_builtin_fun : (Tryf.f6.params.toList.all fun t => !Tryf.pinned.checked.prog.wantsStandIn t) = true := by kernel_rfl
theorem predicate_in_builtin_goes : false = Rows.fnPredicateInBuiltinExactRow.goesBy Tryf.pinned.checked.prog := by kernel_rfl
theorem predicate_in_builtin_vl : Rows.fnPredicateInBuiltinExactRow.veiled = ((Tryf.f6.params.toList ++ (OpenSpec.ofChange Rows.fnPredicateInBuiltinExactSpec).bare.plain.varTypes Tryf.pinned.checked.prog ++ Tryf.f6.resultTypes.toList).any (Tryf.pinned.checked.prog.veiledRec ·)) := by kernel_rfl
theorem predicate_in_builtin_vf : Rows.fnPredicateInBuiltinExactRow.veiledFits Tryf.pinned.checked.prog Tryf.f6.params.toList (Tryf.f6.params.toList ++ (OpenSpec.ofChange Rows.fnPredicateInBuiltinExactSpec).bare.plain.varTypes Tryf.pinned.checked.prog ++ Tryf.f6.resultTypes.toList) = true := by kernel_rfl
theorem predicate_in_builtin_init : Tryf.checked.prog.inits.idxOf? 6 = none := by kernel_rfl
theorem predicate_in_builtin_ts : Tryf.f6.params.toList = [9, 9, 9, 57] := by kernel_rfl
theorem predicate_in_builtin_rt : Tryf.f6.resultTypes = #[4] := by kernel_rfl

set_option maxRecDepth 100000 in
theorem predicate_in_builtin_lifted (os : Os) (started : os.Started) (H : Type) (enc : TypeId × Value → H) :
    ReturnsInTold none {} Tryf.checked os 6 .any Input.okWide ((OpenSpec.ofChange Rows.fnPredicateInBuiltinExactSpec).preRow enc Tryf.checked.prog Tryf.f6 [] false []) (fun F => ((OpenSpec.ofChange Rows.fnPredicateInBuiltinExactSpec).at F).post enc Tryf.checked.prog Tryf.f6 false true false false) (aloneAtReturn Tryf.checked.prog) nothingAlways := by
  refine law_lifted 6 Tryf.f6 [9, 9, 9, 57] predicate_in_builtin_ts predicate_in_builtin_rt rfl ?_ (reads_all _ (by decide)) predicate_in_builtin_init Tryf.func6 os started H enc
    (OpenSpec.witness_stopped (enc := enc) (C := Tryf.checked) false ⟨#[], #[.string ⟨#[]⟩, .string ⟨#[]⟩, .string ⟨#[]⟩, .slice none 0 0], []⟩ 8 (by kernel_rfl) (by kernel_rfl) (by kernel_rfl) (by kernel_rfl)) ?_
  · intro H ds hd
    match ds, hd with
    | [d1, d2, d3, d4], _ => rfl
  · intro F W base args ds ps hF hval hA hlt hsz
    exact predicate_in_builtin_contract F W base args ds ps hF hval hA hlt hsz

set_option maxHeartbeats 1000000 in
set_option maxRecDepth 100000 in
theorem predicate_in_builtin : Rows.FnPredicateInBuiltinExactToldSaid :=
  Claim7.holds_of_told_any 6 Tryf.f6 "fmt.Sprintf" [] [] _ _ _ predicate_in_builtin_wf rfl rfl rfl Tryf.laidOut Tryf.rowed rfl ⟨rfl, rfl, rfl, rfl, rfl, rfl, rfl⟩ rfl rfl predicate_in_builtin_tie predicate_in_builtin_fn Tryf.func6 predicate_in_builtin_rd
    predicate_in_builtin_inst predicate_in_builtin_wrap Tryf.stops.symm rfl Tryf.stopKnobs.symm Tryf.worded
    predicate_in_builtin_in predicate_in_builtin_un predicate_in_builtin_re predicate_in_builtin_nm (by as_aux_lemma => kernel_rfl) (by as_aux_lemma => kernel_rfl) (by as_aux_lemma => kernel_rfl) (by as_aux_lemma => kernel_rfl) (by as_aux_lemma => kernel_rfl) rfl (by as_aux_lemma => kernel_rfl) rfl rfl
    rfl rfl
    rfl Tryf.mainIs Tryf.looks predicate_in_builtin_fun (by decide) predicate_in_builtin_goes
    (OpenClaim.moreEntering_of Tryf.enters (by as_aux_lemma => kernel_rfl) Tryf.heard (by as_aux_lemma => kernel_rfl) (by as_aux_lemma => kernel_rfl) (by as_aux_lemma => kernel_rfl) (by as_aux_lemma => kernel_rfl) Tryf.plainKeys Tryf.liftsFinal Tryf.make)
    ⟨_, WideRow.started_initial, Tryf.quiet _⟩
    (fun os started _ H enc _ => predicate_in_builtin_lifted os started H enc)
    ⟨predicate_in_builtin_vl, predicate_in_builtin_vf⟩

end Go.Proofs.YtjpkoddghagdgaaFmtR
