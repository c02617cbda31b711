/-
  FnPointerStringInjective returns true for every two names, and no argument turns. Conditions: none.
-/
import Derived.Test.YtjpkoddghagdgaaFmtRLawB
import Derived.Laws.Strings
namespace Go.Proofs.YtjpkoddghagdgaaFmtR
open Go.RowKit Go.Extern.Stop Go.Stop Go.Extern
open Go.ChangeShapes Go.WideShapes Go.ChangeAt Go.Kit
open Go.ChangeMaps (open_string shut_string)

set_option maxHeartbeats 400000 in
theorem p2_yes (F : Interp) (a b : ByteArray) (w : World) (hF : F.told.answers w.tape) (h : a.size + b.size ≤ 1048576) :
    Calls Tryf.prog 4 #[.string a, .string b] w fun e w' => e = .returned (.bool true) ∧ Below w.heap.size w w' := by
  have h1 : a.size ≤ 1048576 := by omega
  have h2 : b.size ≤ 1048576 := by omega
  go_enter Tryf.func4, Tryf.ntmps4
  go_wp2_with fail
  refine (zz14_yes _ _ _ h).mono ?_
  rintro e w' ⟨rfl, rfl⟩
  go_wp2_with fail
  refine (pointer_str F a _ _ (by exact hF) (by omega) (by simp [go_sem])).mono ?_
  rintro e w1 ⟨rfl, hb1⟩
  go_wp2_with fail
  refine (pointer_str F b _ _ (by show F.told.answers w1.tape; rw [hb1.tape]; exact hF) (by omega) (by simp [go_sem])).mono ?_
  rintro e w2 ⟨rfl, hb2⟩
  go_wp2
  go_ret
  refine ⟨ret_bool' ?_, (((Below.refl _ w).alloc (Nat.le_refl _) _).trans (hb1.mono (by simp))).trans (Below.mono (((Below.refl _ w1).alloc (Nat.le_refl _) _).trans (hb2.mono (by simp))) (by have := hb1.size; simp at this; omega))⟩
  show (((bs (35 :: a.data.toList)).toList == (bs (35 :: b.data.toList)).toList) == (a.toList == b.toList)) = true
  rw [ByteArray.toList_eq, ByteArray.toList_eq, ByteArray.toList_eq, ByteArray.toList_eq, bs_list, bs_list]
  by_cases e : a.data.toList = b.data.toList
  · rw [e]; simp
  · have h1 : (a.data.toList == b.data.toList) = false := by simpa using e
    have h2 : ((35 : UInt8) :: a.data.toList == 35 :: b.data.toList) = false := by simpa using e
    rw [h1, h2]; rfl

set_option maxHeartbeats 400000 in
theorem p2_no (a b : ByteArray) (w : World) (h : 1048576 < a.size + b.size) (ha : a.size ≤ 140737488355328) (hb : b.size ≤ 140737488355328) :
    Calls Tryf.prog 4 #[.string a, .string b] w fun e w' => e = .returned (.bool true) ∧ Below w.heap.size w w' := by
  go_enter Tryf.func4, Tryf.ntmps4
  go_wp2_with fail
  refine (zz14_no _ _ _ h ha hb).mono ?_
  rintro e w' ⟨rfl, rfl⟩
  go_wp2
  go_ret
  exact ⟨rfl, Below.refl _ _⟩

set_option maxRecDepth 100000 in
theorem pointer_injective_contract {H : Type} {enc : TypeId × Value → H} (F : Interp) (W : World) (base : Nat) (args : Array Value) (ds : List (DataW H)) (ps : List MemPlace) (hF : F.told.answers W.tape)
    (hval : ∀ (j : Nat) t v, ([9, 9] : List TypeId)[j]? = some t → args[j]? = some v → Value.okWide Tryf.prog W .any base t v)
    (hA : DataW.TrodAll enc Tryf.prog W 0 (fun _ => true) true [9, 9] args.toList ds ps) (_ : ∀ x ∈ ps, x.block < W.heap.size)
    (hsz : (DataW.weightsEach Tryf.prog [9, 9] ds).all (· ≤ reachBytes) = true) :
    Calls Tryf.prog 4 args W fun e W' => e = .returned (.bool true) ∧ Below W.heap.size W W' := by
  obtain ⟨v0, v1, d0, d1, p0, p1, rfl, rfl, rfl, h0, h1⟩ := trodAll_two hA
  obtain ⟨a, rfl, rfl, rfl, _⟩ := open_string Tryf.underlying9 (hval 0 9 v0 rfl rfl) h0
  obtain ⟨b, rfl, rfl, rfl, _⟩ := open_string Tryf.underlying9 (hval 1 9 v1 rfl rfl) h1
  have hl0 : a.data.toList.length ≤ reachBytes := sized_string hsz (j := 0) (t := 9) rfl rfl
  have hl1 : b.data.toList.length ≤ reachBytes := sized_string hsz (j := 1) (t := 9) rfl rfl
  have hr47 := reachBytes_lt
  rw [size_list] at hl0 hl1
  by_cases hn : a.size + b.size ≤ 1048576
  · exact p2_yes F a b W hF hn
  · exact p2_no a b W (by omega) (by omega) (by omega)

theorem pointer_injective_wf : Rows.fnPointerStringInjectiveRow.wf (OpenSpec.ofChange Rows.fnPointerStringInjectiveSpec) = true := by kernel_rfl
theorem pointer_injective_tie : namedTie Tryf.pinned.checked.prog Rows.fnPointerStringInjectiveRow.namedList (OpenSpec.ofChange Rows.fnPointerStringInjectiveSpec).vars = true := by kernel_rfl
theorem pointer_injective_fn : Tryf.pinned.checked.prog.funcNamed Rows.fnPointerStringInjectiveRow.func = some 4 := by kernel_rfl
theorem pointer_injective_rd : (Tryf.f4.params.toList.all fun t => Tryf.pinned.checked.prog.readableRec t) = true := by kernel_rfl
theorem pointer_injective_inst : Tryf.f4.isInstance Tryf.pinned.checked.prog Rows.fnPointerStringInjectiveRow.origin Rows.fnPointerStringInjectiveRow.targs := of_decide_eq_true (by kernel_rfl)
theorem pointer_injective_wrap : Tryf.f4.isWrapper Tryf.pinned.checked.prog Rows.fnPointerStringInjectiveRow.wrapper Rows.fnPointerStringInjectiveRow.mainSum := of_decide_eq_true (by kernel_rfl)
theorem pointer_injective_in : Rows.fnPointerStringInjectiveRow.inPlace = Tryf.pinned.checked.prog.inPlace 4 := by kernel_rfl
theorem pointer_injective_un : Rows.fnPointerStringInjectiveRow.unfollowed = Tryf.pinned.checked.prog.unfollowed 4 := by kernel_rfl
theorem pointer_injective_re : Rows.fnPointerStringInjectiveRow.recurses = Tryf.pinned.checked.prog.recurses 4 := by kernel_rfl
theorem pointer_injective_nm : Rows.fnPointerStringInjectiveRow.named = Tryf.pinned.checked.prog.varsNamed 4 := by kernel_rfl
theorem pointer_injective_fun : (Tryf.f4.params.toList.all fun t => !Tryf.pinned.checked.prog.wantsStandIn t) = true := by kernel_rfl
theorem pointer_injective_goes : false = Rows.fnPointerStringInjectiveRow.goesBy Tryf.pinned.checked.prog := by kernel_rfl
theorem pointer_injective_vl : Rows.fnPointerStringInjectiveRow.veiled = ((Tryf.f4.params.toList ++ (OpenSpec.ofChange Rows.fnPointerStringInjectiveSpec).bare.plain.varTypes Tryf.pinned.checked.prog ++ Tryf.f4.resultTypes.toList).any (Tryf.pinned.checked.prog.veiledRec ·)) := by kernel_rfl
theorem pointer_injective_vf : Rows.fnPointerStringInjectiveRow.veiledFits Tryf.pinned.checked.prog Tryf.f4.params.toList (Tryf.f4.params.toList ++ (OpenSpec.ofChange Rows.fnPointerStringInjectiveSpec).bare.plain.varTypes Tryf.pinned.checked.prog ++ Tryf.f4.resultTypes.toList) = true := by kernel_rfl
theorem pointer_injective_init : Tryf.checked.prog.inits.idxOf? 4 = none := by kernel_rfl
theorem pointer_injective_ts : Tryf.f4.params.toList = [9, 9] := by kernel_rfl
theorem pointer_injective_rt : Tryf.f4.resultTypes = #[4] := by kernel_rfl

set_option maxRecDepth 100000 in
theorem pointer_injective_lifted (os : Os) (started : os.Started) (H : Type) (enc : TypeId × Value → H) :
    ReturnsInTold none {} Tryf.checked os 4 .any Input.okWide ((OpenSpec.ofChange Rows.fnPointerStringInjectiveSpec).preRow enc Tryf.checked.prog Tryf.f4 [] false []) (fun F => ((OpenSpec.ofChange Rows.fnPointerStringInjectiveSpec).at F).post enc Tryf.checked.prog Tryf.f4 false true false false) (aloneAtReturn Tryf.checked.prog) nothingAlways := by
  refine law_lifted 4 Tryf.f4 [9, 9] pointer_injective_ts pointer_injective_rt rfl ?_ (reads_all _ (by decide)) pointer_injective_init Tryf.func4 os started H enc
    (OpenSpec.witness_stopped (enc := enc) (C := Tryf.checked) false ⟨#[], #[.string ⟨#[]⟩, .string ⟨#[]⟩], []⟩ 8 (by kernel_rfl) (by kernel_rfl) (by kernel_rfl) (by kernel_rfl)) ?_
  · intro H ds hd
    match ds, hd with
    | [d1, d2], _ => rfl
  · intro F W base args ds ps hF hval hA hlt hsz
    exact pointer_injective_contract F W base args ds ps hF hval hA hlt hsz

set_option maxHeartbeats 1000000 in
set_option maxRecDepth 100000 in
theorem pointer_injective : Rows.FnPointerStringInjectiveToldSaid :=
  Claim7.holds_of_told_any 4 Tryf.f4 "fmt.Sprintf" [] [] _ _ _ pointer_injective_wf rfl rfl rfl Tryf.laidOut Tryf.rowed rfl ⟨rfl, rfl, rfl, rfl, rfl, rfl, rfl⟩ rfl rfl pointer_injective_tie pointer_injective_fn Tryf.func4 pointer_injective_rd
    pointer_injective_inst pointer_injective_wrap Tryf.stops.symm rfl Tryf.stopKnobs.symm Tryf.worded
    pointer_injective_in pointer_injective_un pointer_injective_re pointer_injective_nm (by as_aux_lemma => kernel_rfl) (by as_aux_lemma => kernel_rfl) (by as_aux_lemma => kernel_rfl) (by as_aux_lemma => kernel_rfl) (by as_aux_lemma => kernel_rfl) rfl (by as_aux_lemma => kernel_rfl) rfl rfl
    rfl rfl
    rfl Tryf.mainIs Tryf.looks pointer_injective_fun (by decide) pointer_injective_goes
    (OpenClaim.moreEntering_of Tryf.enters (by as_aux_lemma => kernel_rfl) Tryf.heard (by as_aux_lemma => kernel_rfl) (by as_aux_lemma => kernel_rfl) (by as_aux_lemma => kernel_rfl) (by as_aux_lemma => kernel_rfl) Tryf.plainKeys Tryf.liftsFinal Tryf.make)
    ⟨_, WideRow.started_initial, Tryf.quiet _⟩
    (fun os started _ H enc _ => pointer_injective_lifted os started H enc)
    ⟨pointer_injective_vl, pointer_injective_vf⟩

end Go.Proofs.YtjpkoddghagdgaaFmtR
