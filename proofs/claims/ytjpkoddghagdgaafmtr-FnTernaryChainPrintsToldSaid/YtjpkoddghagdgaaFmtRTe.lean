/-
  FnTernaryChainPrints returns true for every conditions, branches and last branch, and no argument turns. Conditions: none.
-/
import Derived.Test.YtjpkoddghagdgaaFmtRTeC
namespace Go.Proofs.YtjpkoddghagdgaaFmtR
open Go.RowKit Go.Extern.Stop Go.Stop Go.Extern
open Go.ChangeShapes Go.WideShapes Go.ChangeAt Go.Kit
open Go.ChangeMaps (open_string shut_string)

set_option maxHeartbeats 1000000 in
theorem t9_no (a1 a2 : Option Addr) (q1 q2 b1 b2 o1 o2 : Nat) (xs ys : List ByteArray) (l : ByteArray) (w : World) (hl : l.size ≤ 9223372036854775807) (hx : IsStrs w a1 b1 o1 xs) (hy : IsStrs w a2 b2 o2 ys)
    (h : 256 < xs.length ∨ 256 < ys.length ∨ 1048576 < l.size ∨ xs.length ≠ ys.length ∨ xs.length = 0) :
    Calls Tryf.prog 9 #[.slice a1 xs.length q1, .slice a2 ys.length q2, .string l] w fun e w' => e = .returned (.bool true) ∧ Below w.heap.size w w' := by
  have HX := Lib.hid hx
  have HY := Lib.hid hy
  have HH := Lib.hid h
  clear hx hy h
  go_enter Tryf.func9, Tryf.ntmps9
  go_wp2_with fail
  refine (zz29 a1 a2 q1 q2 b1 b2 o1 o2 xs ys l _ hl HX.out HY.out).mono ?_
  rintro e w' ⟨r, rfl, rfl, hr⟩
  clear hr
  cases r
  · go_wp2
    go_ret
    exact ⟨rfl, Below.refl _ _⟩
  by_cases g1 : 256 < xs.length
  · go_wp2
    go_ret
    exact ⟨rfl, Below.refl _ _⟩
  by_cases g2 : 256 < ys.length
  · go_wp2
    go_ret
    exact ⟨rfl, Below.refl _ _⟩
  by_cases g3 : 1048576 < l.size
  · go_wp2
    go_ret
    exact ⟨rfl, Below.refl _ _⟩
  have h5 : xs.length ≠ ys.length ∨ xs.length = 0 := by have := HH.out; omega
  have H5 := Lib.hid h5
  clear h5
  go_wp2_with fail
  refine (zz30 a1 q1 b1 o1 xs _ HX.out).mono ?_
  rintro e w' ⟨m1, rfl, rfl⟩
  go_wp2_with fail
  refine (zz30 a2 q2 b2 o2 ys _ HY.out).mono ?_
  rintro e w' ⟨m2, rfl, rfl⟩
  by_cases g4 : xs.length = ys.length
  · have t2 : ((xs.length : Int) == 0) = true := by have := H5.out; simp only [beq_iff_eq]; omega
    have t1 : ((xs.length : Int) == (ys.length : Int)) = true := by simp only [beq_iff_eq]; omega
    have t3 : ((ys.length : Int) == 0) = true := by have := H5.out; simp only [beq_iff_eq]; omega
    clear g4 H5 HH
    go_wp2
    all_goals
      go_ret
      exact ⟨rfl, Below.refl _ _⟩
  · have t1 : ((xs.length : Int) == (ys.length : Int)) = false := by simp only [beq_eq_false_iff_ne, ne_eq]; omega
    clear g4 H5 HH
    go_wp2
    all_goals
      go_ret
      exact ⟨rfl, Below.refl _ _⟩

set_option maxRecDepth 100000 in
theorem ternary_chain_contract {H : Type} {enc : TypeId × Value → H} (F : Interp) (W : World) (base : Nat) (args : Array Value) (ds : List (DataW H)) (ps : List MemPlace) (hF : F.told.answers W.tape)
    (hval : ∀ (j : Nat) t v, ([57, 57, 9] : List TypeId)[j]? = some t → args[j]? = some v → Value.okWide Tryf.prog W .any base t v)
    (hA : DataW.TrodAll enc Tryf.prog W 0 (fun _ => true) true [57, 57, 9] args.toList ds ps) (_ : ∀ x ∈ ps, x.block < W.heap.size)
    (_ : (DataW.weightsEach Tryf.prog [57, 57, 9] ds).all (· ≤ reachBytes) = true) :
    Calls Tryf.prog 9 args W fun e W' => e = .returned (.bool true) ∧ Below W.heap.size W W' := by
  obtain ⟨v0, v1, v2, d0, d1, d2, p0, p1, p2, rfl, rfl, rfl, h0, h1, h2⟩ := trodAll_three hA
  obtain ⟨a1, q1, b1, o1, xs, rfl, hx⟩ := open_strs (hval 0 57 v0 rfl rfl) h0
  obtain ⟨a2, q2, b2, o2, ys, rfl, hy⟩ := open_strs (hval 1 57 v1 rfl rfl) h1
  obtain ⟨l, rfl, rfl, rfl, hl⟩ := open_string Tryf.underlying9 (hval 2 9 v2 rfl rfl) h2
  by_cases h : 256 < xs.length ∨ 256 < ys.length ∨ 1048576 < l.size ∨ xs.length ≠ ys.length ∨ xs.length = 0
  · exact t9_no a1 a2 q1 q2 b1 b2 o1 o2 xs ys l W hl hx hy h
  · have e : ys.length = xs.length := by omega
    rw [e]
    exact t9_yes F a1 a2 q1 q2 b1 b2 o1 o2 xs ys l W hF (by omega) hx hy (by omega) e (by omega)


theorem ternary_chain_wf : Rows.fnTernaryChainPrintsRow.wf (OpenSpec.ofChange Rows.fnTernaryChainPrintsSpec) = true := by kernel_rfl
theorem ternary_chain_tie : namedTie Tryf.pinned.checked.prog Rows.fnTernaryChainPrintsRow.namedList (OpenSpec.ofChange Rows.fnTernaryChainPrintsSpec).vars = true := by kernel_rfl
theorem ternary_chain_fn : Tryf.pinned.checked.prog.funcNamed Rows.fnTernaryChainPrintsRow.func = some 9 := by kernel_rfl
theorem ternary_chain_rd : (Tryf.f9.params.toList.all fun t => Tryf.pinned.checked.prog.readableRec t) = true := by kernel_rfl
theorem ternary_chain_inst : Tryf.f9.isInstance Tryf.pinned.checked.prog Rows.fnTernaryChainPrintsRow.origin Rows.fnTernaryChainPrintsRow.targs := of_decide_eq_true (by kernel_rfl)
theorem ternary_chain_wrap : Tryf.f9.isWrapper Tryf.pinned.checked.prog Rows.fnTernaryChainPrintsRow.wrapper Rows.fnTernaryChainPrintsRow.mainSum := of_decide_eq_true (by kernel_rfl)
theorem ternary_chain_in : Rows.fnTernaryChainPrintsRow.inPlace = Tryf.pinned.checked.prog.inPlace 9 := by kernel_rfl
theorem ternary_chain_un : Rows.fnTernaryChainPrintsRow.unfollowed = Tryf.pinned.checked.prog.unfollowed 9 := by kernel_rfl
theorem ternary_chain_re : Rows.fnTernaryChainPrintsRow.recurses = Tryf.pinned.checked.prog.recurses 9 := by kernel_rfl
theorem ternary_chain_nm : Rows.fnTernaryChainPrintsRow.named = Tryf.pinned.checked.prog.varsNamed 9 := by kernel_rfl
theorem ternary_chain_fun : (Tryf.f9.params.toList.all fun t => !Tryf.pinned.checked.prog.wantsStandIn t) = true := by kernel_rfl
theorem ternary_chain_goes : false = Rows.fnTernaryChainPrintsRow.goesBy Tryf.pinned.checked.prog := by kernel_rfl
theorem ternary_chain_vl : Rows.fnTernaryChainPrintsRow.veiled = ((Tryf.f9.params.toList ++ (OpenSpec.ofChange Rows.fnTernaryChainPrintsSpec).bare.plain.varTypes Tryf.pinned.checked.prog ++ Tryf.f9.resultTypes.toList).any (Tryf.pinned.checked.prog.veiledRec ·)) := by kernel_rfl
theorem ternary_chain_vf : Rows.fnTernaryChainPrintsRow.veiledFits Tryf.pinned.checked.prog Tryf.f9.params.toList (Tryf.f9.params.toList ++ (OpenSpec.ofChange Rows.fnTernaryChainPrintsSpec).bare.plain.varTypes Tryf.pinned.checked.prog ++ Tryf.f9.resultTypes.toList) = true := by kernel_rfl
theorem ternary_chain_init : Tryf.checked.prog.inits.idxOf? 9 = none := by kernel_rfl
theorem ternary_chain_ts : Tryf.f9.params.toList = [57, 57, 9] := by kernel_rfl
theorem ternary_chain_rt : Tryf.f9.resultTypes = #[4] := by kernel_rfl

set_option maxRecDepth 100000 in
theorem ternary_chain_lifted (os : Os) (started : os.Started) (H : Type) (enc : TypeId × Value → H) :
    ReturnsInTold none {} Tryf.checked os 9 .any Input.okWide ((OpenSpec.ofChange Rows.fnTernaryChainPrintsSpec).preRow enc Tryf.checked.prog Tryf.f9 [] false []) (fun F => ((OpenSpec.ofChange Rows.fnTernaryChainPrintsSpec).at F).post enc Tryf.checked.prog Tryf.f9 false true false false) (aloneAtReturn Tryf.checked.prog) nothingAlways := by
  refine law_lifted 9 Tryf.f9 [57, 57, 9] ternary_chain_ts ternary_chain_rt rfl ?_ (reads_all _ (by decide)) ternary_chain_init Tryf.func9 os started H enc
    (OpenSpec.witness_stopped (enc := enc) (C := Tryf.checked) false ⟨#[], #[.slice none 0 0, .slice none 0 0, .string ⟨#[]⟩], []⟩ 8 (by kernel_rfl) (by kernel_rfl) (by kernel_rfl) (by kernel_rfl)) ?_
  · intro H ds hd
    match ds, hd with
    | [d1, d2, d3], _ => rfl
  · intro F W base args ds ps hF hval hA hlt hsz
    exact ternary_chain_contract F W base args ds ps hF hval hA hlt hsz

set_option maxHeartbeats 1000000 in
set_option maxRecDepth 100000 in
theorem ternary_chain : Rows.FnTernaryChainPrintsToldSaid :=
  Claim7.holds_of_told_any 9 Tryf.f9 "fmt.Sprintf" [] [] _ _ _ ternary_chain_wf rfl rfl rfl Tryf.laidOut Tryf.rowed rfl ⟨rfl, rfl, rfl, rfl, rfl, rfl, rfl⟩ rfl rfl ternary_chain_tie ternary_chain_fn Tryf.func9 ternary_chain_rd
    ternary_chain_inst ternary_chain_wrap Tryf.stops.symm rfl Tryf.stopKnobs.symm Tryf.worded
    ternary_chain_in ternary_chain_un ternary_chain_re ternary_chain_nm (by as_aux_lemma => kernel_rfl) (by as_aux_lemma => kernel_rfl) (by as_aux_lemma => kernel_rfl) (by as_aux_lemma => kernel_rfl) (by as_aux_lemma => kernel_rfl) rfl (by as_aux_lemma => kernel_rfl) rfl rfl
    rfl rfl
    rfl Tryf.mainIs Tryf.looks ternary_chain_fun (by decide) ternary_chain_goes
    (OpenClaim.moreEntering_of Tryf.enters (by as_aux_lemma => kernel_rfl) Tryf.heard (by as_aux_lemma => kernel_rfl) (by as_aux_lemma => kernel_rfl) (by as_aux_lemma => kernel_rfl) (by as_aux_lemma => kernel_rfl) Tryf.plainKeys Tryf.liftsFinal Tryf.make)
    ⟨_, WideRow.started_initial, Tryf.quiet _⟩
    (fun os started _ H enc _ => ternary_chain_lifted os started H enc)
    ⟨ternary_chain_vl, ternary_chain_vf⟩

end Go.Proofs.YtjpkoddghagdgaaFmtR
