/-
  FnPredicateNestingTransparent returns true for every callee, every list of texts and every k, and no argument turns. Conditions: none.
-/
import Derived.Test.YtjpkoddghagdgaaFmtRPdN
namespace Go.Proofs.YtjpkoddghagdgaaFmtR
open Go.RowKit Go.Extern.Stop Go.Stop Go.Extern
open Go.ChangeShapes Go.WideShapes Go.ChangeAt Go.Kit
open Go.ChangeMaps (open_string shut_string)

set_option maxHeartbeats 1000000 in
theorem n7_long (s : ByteArray) (a : Option Addr) (c b o : Nat) (xs : List ByteArray) (n : Int) (w : World) (hs : s.size ≤ 9223372036854775807) (h4 : 4096 < xs.length) (hx : IsStrs w a b o xs) :
    Calls Tryf.prog 7 #[.string s, .slice a xs.length c, .int .i64 n] w fun e w' => e = .returned (.bool true) ∧ Below w.heap.size w w' := by
  have HX := Lib.hid hx
  clear hx
  go_enter Tryf.func7, Tryf.ntmps7
  go_wp2_with fail
  refine (zz26 s a c b o xs n _ hs HX.out).mono ?_
  rintro e w' ⟨r, rfl, rfl, hr⟩
  clear hr
  cases r
  · go_wp2
    go_ret
    exact ⟨rfl, Below.refl _ _⟩
  · go_wp2
    go_ret
    exact ⟨rfl, Below.refl _ _⟩

set_option maxHeartbeats 1000000 in
theorem n7_k (s : ByteArray) (a : Option Addr) (c b o : Nat) (xs : List ByteArray) (n : Int) (w : World) (hs : s.size ≤ 9223372036854775807) (h4 : xs.length ≤ 4096) (hk : n < 0 ∨ 1024 < n) (hx : IsStrs w a b o xs) :
    Calls Tryf.prog 7 #[.string s, .slice a xs.length c, .int .i64 n] w fun e w' => e = .returned (.bool true) ∧ Below w.heap.size w w' := by
  have HX := Lib.hid hx
  have HK := Lib.hid hk
  clear hx hk
  go_enter Tryf.func7, Tryf.ntmps7
  go_wp2_with fail
  refine (zz26 s a c b o xs n _ hs HX.out).mono ?_
  rintro e w' ⟨r, rfl, rfl, hr⟩
  clear hr
  cases r
  · go_wp2
    go_ret
    exact ⟨rfl, Below.refl _ _⟩
  go_wp2_with fail
  refine (zz21 a c b o xs _ HX.out).mono ?_
  rintro e w' ⟨t, rfl, rfl⟩
  go_wp2_with fail
  refine (zz20 _ _ _ _ _).mono ?_
  rintro e w' ⟨r, rfl, rfl, -⟩
  cases r
  case true =>
    go_wp2
    go_ret
    exact ⟨rfl, Below.refl _ _⟩
  rcases HK.out with h | h
  · go_wp2
    go_ret
    exact ⟨rfl, Below.refl _ _⟩
  · have h0 : ¬ n < 0 := by omega
    go_wp2
    go_ret
    exact ⟨rfl, Below.refl _ _⟩

set_option maxRecDepth 100000 in
theorem predicate_nesting_contract {H : Type} {enc : TypeId × Value → H} (F : Interp) (W : World) (base : Nat) (args : Array Value) (ds : List (DataW H)) (ps : List MemPlace) (hF : F.told.answers W.tape)
    (hval : ∀ (j : Nat) t v, ([9, 57, 3] : List TypeId)[j]? = some t → args[j]? = some v → Value.okWide Tryf.prog W .any base t v)
    (hA : DataW.TrodAll enc Tryf.prog W 0 (fun _ => true) true [9, 57, 3] args.toList ds ps) (_ : ∀ x ∈ ps, x.block < W.heap.size)
    (_ : (DataW.weightsEach Tryf.prog [9, 57, 3] ds).all (· ≤ reachBytes) = true) :
    Calls Tryf.prog 7 args W fun e W' => e = .returned (.bool true) ∧ Below W.heap.size W W' := by
  obtain ⟨v0, v1, v2, d0, d1, d2, p0, p1, p2, rfl, rfl, rfl, h0, h1, h2⟩ := trodAll_three hA
  obtain ⟨s, rfl, rfl, rfl, hs⟩ := open_string Tryf.underlying9 (hval 0 9 v0 rfl rfl) h0
  obtain ⟨a, c, b, o, xs, rfl, hx⟩ := open_strs (hval 1 57 v1 rfl rfl) h1
  obtain ⟨n, rfl, rfl, rfl, wn⟩ := open_int Tryf.underlying3 (hval 2 3 v2 rfl rfl) h2
  have hs' : s.size ≤ 9223372036854775807 := hs
  by_cases h4 : xs.length ≤ 4096
  · by_cases hk : n < 0 ∨ 1024 < n
    · exact n7_k s a c b o xs n W hs' h4 hk hx
    · obtain ⟨m, rfl⟩ : ∃ m : Nat, n = (m : Int) := ⟨n.toNat, by omega⟩
      exact n7_yes F s a c b o xs m W hF hs' h4 (by omega) hx
  · exact n7_long s a c b o xs n W hs' (by omega) hx


theorem predicate_nesting_wf : Rows.fnPredicateNestingTransparentRow.wf (OpenSpec.ofChange Rows.fnPredicateNestingTransparentSpec) = true := by kernel_rfl
theorem predicate_nesting_tie : namedTie Tryf.pinned.checked.prog Rows.fnPredicateNestingTransparentRow.namedList (OpenSpec.ofChange Rows.fnPredicateNestingTransparentSpec).vars = true := by kernel_rfl
theorem predicate_nesting_fn : Tryf.pinned.checked.prog.funcNamed Rows.fnPredicateNestingTransparentRow.func = some 7 := by kernel_rfl
theorem predicate_nesting_rd : (Tryf.f7.params.toList.all fun t => Tryf.pinned.checked.prog.readableRec t) = true := by kernel_rfl
theorem predicate_nesting_inst : Tryf.f7.isInstance Tryf.pinned.checked.prog Rows.fnPredicateNestingTransparentRow.origin Rows.fnPredicateNestingTransparentRow.targs := of_decide_eq_true (by kernel_rfl)
theorem predicate_nesting_wrap : Tryf.f7.isWrapper Tryf.pinned.checked.prog Rows.fnPredicateNestingTransparentRow.wrapper Rows.fnPredicateNestingTransparentRow.mainSum := of_decide_eq_true (by kernel_rfl)
theorem predicate_nesting_in : Rows.fnPredicateNestingTransparentRow.inPlace = Tryf.pinned.checked.prog.inPlace 7 := by kernel_rfl
theorem predicate_nesting_un : Rows.fnPredicateNestingTransparentRow.unfollowed = Tryf.pinned.checked.prog.unfollowed 7 := by kernel_rfl
theorem predicate_nesting_re : Rows.fnPredicateNestingTransparentRow.recurses = Tryf.pinned.checked.prog.recurses 7 := by kernel_rfl
theorem predicate_nesting_nm : Rows.fnPredicateNestingTransparentRow.named = Tryf.pinned.checked.prog.varsNamed 7 := by kernel_rfl
theorem predicate_nesting_fun : (Tryf.f7.params.toList.all fun t => !Tryf.pinned.checked.prog.wantsStandIn t) = true := by kernel_rfl
theorem predicate_nesting_goes : false = Rows.fnPredicateNestingTransparentRow.goesBy Tryf.pinned.checked.prog := by kernel_rfl
theorem predicate_nesting_vl : Rows.fnPredicateNestingTransparentRow.veiled = ((Tryf.f7.params.toList ++ (OpenSpec.ofChange Rows.fnPredicateNestingTransparentSpec).bare.plain.varTypes Tryf.pinned.checked.prog ++ Tryf.f7.resultTypes.toList).any (Tryf.pinned.checked.prog.veiledRec ·)) := by kernel_rfl
theorem predicate_nesting_vf : Rows.fnPredicateNestingTransparentRow.veiledFits Tryf.pinned.checked.prog Tryf.f7.params.toList (Tryf.f7.params.toList ++ (OpenSpec.ofChange Rows.fnPredicateNestingTransparentSpec).bare.plain.varTypes Tryf.pinned.checked.prog ++ Tryf.f7.resultTypes.toList) = true := by kernel_rfl
theorem predicate_nesting_init : Tryf.checked.prog.inits.idxOf? 7 = none := by kernel_rfl
theorem predicate_nesting_ts : Tryf.f7.params.toList = [9, 57, 3] := by kernel_rfl
theorem predicate_nesting_rt : Tryf.f7.resultTypes = #[4] := by kernel_rfl

set_option maxRecDepth 100000 in
theorem predicate_nesting_lifted (os : Os) (started : os.Started) (H : Type) (enc : TypeId × Value → H) :
    ReturnsInTold none {} Tryf.checked os 7 .any Input.okWide ((OpenSpec.ofChange Rows.fnPredicateNestingTransparentSpec).preRow enc Tryf.checked.prog Tryf.f7 [] false []) (fun F => ((OpenSpec.ofChange Rows.fnPredicateNestingTransparentSpec).at F).post enc Tryf.checked.prog Tryf.f7 false true false false) (aloneAtReturn Tryf.checked.prog) nothingAlways := by
  refine law_lifted 7 Tryf.f7 [9, 57, 3] predicate_nesting_ts predicate_nesting_rt rfl ?_ (reads_all _ (by decide)) predicate_nesting_init Tryf.func7 os started H enc
    (OpenSpec.witness_stopped (enc := enc) (C := Tryf.checked) false ⟨#[], #[.string ⟨#[]⟩, .slice none 0 0, .int .i64 0], []⟩ 8 (by kernel_rfl) (by kernel_rfl) (by kernel_rfl) (by kernel_rfl)) ?_
  · intro H ds hd
    match ds, hd with
    | [d1, d2, d3], _ => rfl
  · intro F W base args ds ps hF hval hA hlt hsz
    exact predicate_nesting_contract F W base args ds ps hF hval hA hlt hsz

set_option maxHeartbeats 1000000 in
set_option maxRecDepth 100000 in
theorem predicate_nesting : Rows.FnPredicateNestingTransparentToldSaid :=
  Claim7.holds_of_told_any 7 Tryf.f7 "fmt.Sprintf" [] [] _ _ _ predicate_nesting_wf rfl rfl rfl Tryf.laidOut Tryf.rowed rfl ⟨rfl, rfl, rfl, rfl, rfl, rfl, rfl⟩ rfl rfl predicate_nesting_tie predicate_nesting_fn Tryf.func7 predicate_nesting_rd
    predicate_nesting_inst predicate_nesting_wrap Tryf.stops.symm rfl Tryf.stopKnobs.symm Tryf.worded
    predicate_nesting_in predicate_nesting_un predicate_nesting_re predicate_nesting_nm (by as_aux_lemma => kernel_rfl) (by as_aux_lemma => kernel_rfl) (by as_aux_lemma => kernel_rfl) (by as_aux_lemma => kernel_rfl) (by as_aux_lemma => kernel_rfl) rfl (by as_aux_lemma => kernel_rfl) rfl rfl
    rfl rfl
    rfl Tryf.mainIs Tryf.looks predicate_nesting_fun (by decide) predicate_nesting_goes
    (OpenClaim.moreEntering_of Tryf.enters (by as_aux_lemma => kernel_rfl) Tryf.heard (by as_aux_lemma => kernel_rfl) (by as_aux_lemma => kernel_rfl) (by as_aux_lemma => kernel_rfl) (by as_aux_lemma => kernel_rfl) Tryf.plainKeys Tryf.liftsFinal Tryf.make)
    ⟨_, WideRow.started_initial, Tryf.quiet _⟩
    (fun os started _ H enc _ => predicate_nesting_lifted os started H enc)
    ⟨predicate_nesting_vl, predicate_nesting_vf⟩

end Go.Proofs.YtjpkoddghagdgaaFmtR
