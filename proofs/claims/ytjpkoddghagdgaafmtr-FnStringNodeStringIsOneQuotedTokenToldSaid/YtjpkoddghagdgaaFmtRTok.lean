/-
  FnStringNodeStringIsOneQuotedToken returns true for every text, valid UTF-8 or not, and no argument turns. Conditions: none.
-/
import Derived.Test.YtjpkoddghagdgaaFmtRLawB
import Derived.Test.YtjpkoddghagdgaaFmtRTokW
namespace Go.Proofs.YtjpkoddghagdgaaFmtR
open Go.RowKit Go.Extern.Stop Go.Stop Go.Extern
open Go.ChangeShapes Go.WideShapes Go.ChangeAt Go.Kit
open Go.ChangeMaps (open_string shut_string)

set_option maxRecDepth 100000 in
theorem string_one_token_contract {H : Type} {enc : TypeId × Value → H} (F : Interp) (W : World) (base : Nat) (args : Array Value) (ds : List (DataW H)) (ps : List MemPlace) (hF : F.told.answers W.tape)
    (hval : ∀ (j : Nat) t v, ([9] : List TypeId)[j]? = some t → args[j]? = some v → Value.okWide Tryf.prog W .any base t v)
    (hA : DataW.TrodAll enc Tryf.prog W 0 (fun _ => true) true [9] args.toList ds ps) (_ : ∀ x ∈ ps, x.block < W.heap.size)
    (hsz : (DataW.weightsEach Tryf.prog [9] ds).all (· ≤ reachBytes) = true) :
    Calls Tryf.prog 10 args W fun e W' => e = .returned (.bool true) ∧ Below W.heap.size W W' := by
  obtain ⟨v0, d0, rfl, rfl, h0⟩ := trodAll_one hA
  obtain ⟨s, rfl, rfl, rfl, _⟩ := open_string Tryf.underlying9 (hval 0 9 v0 rfl rfl) h0
  have hl0 : s.data.toList.length ≤ reachBytes := sized_string hsz (j := 0) (t := 9) rfl rfl
  have hr47 := reachBytes_lt
  rw [size_list] at hl0
  by_cases hn : s.size ≤ 1048576
  · have ht := tok_of_quote s hn
    exact p13_yes F s _ W hF hn rfl ht.1 ht.2
  · exact p13_no s W (by omega) (by omega)

theorem string_one_token_wf : Rows.fnStringNodeStringIsOneQuotedTokenRow.wf (OpenSpec.ofChange Rows.fnStringNodeStringIsOneQuotedTokenSpec) = true := by kernel_rfl
theorem string_one_token_tie : namedTie Tryf.pinned.checked.prog Rows.fnStringNodeStringIsOneQuotedTokenRow.namedList (OpenSpec.ofChange Rows.fnStringNodeStringIsOneQuotedTokenSpec).vars = true := by kernel_rfl
theorem string_one_token_fn : Tryf.pinned.checked.prog.funcNamed Rows.fnStringNodeStringIsOneQuotedTokenRow.func = some 10 := by kernel_rfl
theorem string_one_token_rd : (Tryf.f10.params.toList.all fun t => Tryf.pinned.checked.prog.readableRec t) = true := by kernel_rfl
theorem string_one_token_inst : Tryf.f10.isInstance Tryf.pinned.checked.prog Rows.fnStringNodeStringIsOneQuotedTokenRow.origin Rows.fnStringNodeStringIsOneQuotedTokenRow.targs := of_decide_eq_true (by kernel_rfl)
theorem string_one_token_wrap : Tryf.f10.isWrapper Tryf.pinned.checked.prog Rows.fnStringNodeStringIsOneQuotedTokenRow.wrapper Rows.fnStringNodeStringIsOneQuotedTokenRow.mainSum := of_decide_eq_true (by kernel_rfl)
theorem string_one_token_in : Rows.fnStringNodeStringIsOneQuotedTokenRow.inPlace = Tryf.pinned.checked.prog.inPlace 10 := by kernel_rfl
theorem string_one_token_un : Rows.fnStringNodeStringIsOneQuotedTokenRow.unfollowed = Tryf.pinned.checked.prog.unfollowed 10 := by kernel_rfl
theorem string_one_token_re : Rows.fnStringNodeStringIsOneQuotedTokenRow.recurses = Tryf.pinned.checked.prog.recurses 10 := by kernel_rfl
theorem string_one_token_nm : Rows.fnStringNodeStringIsOneQuotedTokenRow.named = Tryf.pinned.checked.prog.varsNamed 10 := by kernel_rfl
theorem string_one_token_fun : (Tryf.f10.params.toList.all fun t => !Tryf.pinned.checked.prog.wantsStandIn t) = true := by kernel_rfl
theorem string_one_token_goes : false = Rows.fnStringNodeStringIsOneQuotedTokenRow.goesBy Tryf.pinned.checked.prog := by kernel_rfl
theorem string_one_token_vl : Rows.fnStringNodeStringIsOneQuotedTokenRow.veiled = ((Tryf.f10.params.toList ++ (OpenSpec.ofChange Rows.fnStringNodeStringIsOneQuotedTokenSpec).bare.plain.varTypes Tryf.pinned.checked.prog ++ Tryf.f10.resultTypes.toList).any (Tryf.pinned.checked.prog.veiledRec ·)) := by kernel_rfl
theorem string_one_token_vf : Rows.fnStringNodeStringIsOneQuotedTokenRow.veiledFits Tryf.pinned.checked.prog Tryf.f10.params.toList (Tryf.f10.params.toList ++ (OpenSpec.ofChange Rows.fnStringNodeStringIsOneQuotedTokenSpec).bare.plain.varTypes Tryf.pinned.checked.prog ++ Tryf.f10.resultTypes.toList) = true := by kernel_rfl
theorem string_one_token_init : Tryf.checked.prog.inits.idxOf? 10 = none := by kernel_rfl
theorem string_one_token_ts : Tryf.f10.params.toList = [9] := by kernel_rfl
theorem string_one_token_rt : Tryf.f10.resultTypes = #[4] := by kernel_rfl

set_option maxRecDepth 100000 in
theorem string_one_token_lifted (os : Os) (started : os.Started) (H : Type) (enc : TypeId × Value → H) :
    ReturnsInTold none {} Tryf.checked os 10 .any Input.okWide ((OpenSpec.ofChange Rows.fnStringNodeStringIsOneQuotedTokenSpec).preRow enc Tryf.checked.prog Tryf.f10 [] false []) (fun F => ((OpenSpec.ofChange Rows.fnStringNodeStringIsOneQuotedTokenSpec).at F).post enc Tryf.checked.prog Tryf.f10 false true false false) (aloneAtReturn Tryf.checked.prog) nothingAlways := by
  refine law_lifted 10 Tryf.f10 [9] string_one_token_ts string_one_token_rt rfl ?_ (reads_all _ (by decide)) string_one_token_init Tryf.func10 os started H enc
    (OpenSpec.witness_stopped (enc := enc) (C := Tryf.checked) false ⟨#[], #[.string ⟨#[]⟩], []⟩ 8 (by kernel_rfl) (by kernel_rfl) (by kernel_rfl) (by kernel_rfl)) ?_
  · intro H ds hd
    match ds, hd with
    | [d1], _ => rfl
  · intro F W base args ds ps hF hval hA hlt hsz
    exact string_one_token_contract F W base args ds ps hF hval hA hlt hsz

set_option maxHeartbeats 1000000 in
set_option maxRecDepth 100000 in
theorem string_one_token : Rows.FnStringNodeStringIsOneQuotedTokenToldSaid :=
  Claim7.holds_of_told_any 10 Tryf.f10 "fmt.Sprintf" [] [] _ _ _ string_one_token_wf rfl rfl rfl Tryf.laidOut Tryf.rowed rfl ⟨rfl, rfl, rfl, rfl, rfl, rfl, rfl⟩ rfl rfl string_one_token_tie string_one_token_fn Tryf.func10 string_one_token_rd
    string_one_token_inst string_one_token_wrap Tryf.stops.symm rfl Tryf.stopKnobs.symm Tryf.worded
    string_one_token_in string_one_token_un string_one_token_re string_one_token_nm (by as_aux_lemma => kernel_rfl) (by as_aux_lemma => kernel_rfl) (by as_aux_lemma => kernel_rfl) (by as_aux_lemma => kernel_rfl) (by as_aux_lemma => kernel_rfl) rfl (by as_aux_lemma => kernel_rfl) rfl rfl
    rfl rfl
    rfl Tryf.mainIs Tryf.looks string_one_token_fun (by decide) string_one_token_goes
    (OpenClaim.moreEntering_of Tryf.enters (by as_aux_lemma => kernel_rfl) Tryf.heard (by as_aux_lemma => kernel_rfl) (by as_aux_lemma => kernel_rfl) (by as_aux_lemma => kernel_rfl) (by as_aux_lemma => kernel_rfl) Tryf.plainKeys Tryf.liftsFinal Tryf.make)
    ⟨_, WideRow.started_initial, Tryf.quiet _⟩
    (fun os started _ H enc _ => string_one_token_lifted os started H enc)
    ⟨string_one_token_vl, string_one_token_vf⟩

end Go.Proofs.YtjpkoddghagdgaaFmtR
