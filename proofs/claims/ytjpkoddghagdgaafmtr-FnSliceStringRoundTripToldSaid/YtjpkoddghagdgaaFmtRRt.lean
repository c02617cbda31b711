/-
  FnSliceStringRoundTrip returns true for every base text and every bounds, and no argument turns. Conditions: none.
-/
import Derived.Test.YtjpkoddghagdgaaFmtRLawB
import Derived.Test.YtjpkoddghagdgaaFmtRRtW
namespace Go.Proofs.YtjpkoddghagdgaaFmtR
open Go.RowKit Go.Extern.Stop Go.Stop Go.Extern
open Go.ChangeShapes Go.WideShapes Go.ChangeAt Go.Kit
open Go.ChangeMaps (open_string shut_string)

theorem p11_any (F : Interp) (a b c : ByteArray) (x y : Bool) (w : World) (hF : F.told.answers w.tape) (h : a.size + b.size + c.size ≤ 1048576) :
    Calls Tryf.prog 11 #[.string a, .string b, .string c, .bool x, .bool y] w fun e w' => e = .returned (.bool true) ∧ Below w.heap.size w w' := by
  have he0 : ByteArray.empty.toList.isEmpty = true := by rw [ByteArray.toList_eq]; rfl
  have hez : ByteArray.empty.size ≤ 0 := Nat.le_refl 0
  have hen : ∀ k (hk : k < ByteArray.empty.size), ByteArray.empty[k] ≠ 58 := fun k hk => absurd hk (Nat.not_lt_zero k)
  rcases first_at a 91 a.size (Nat.le_refl _) with ha | ⟨j, hj, e91, hb⟩
  · replace ha : ∀ k (hk : k < a.size), a[k] ≠ 91 := fun k hk => ha k hk hk
    cases x
    · cases y
      · obtain ⟨inner, R⟩ := rt_of a ByteArray.empty ByteArray.empty ha hen
        exact p11_nn F a b c _ _ _ inner w hF h (by simp) R ha he0 hez he0 hez
      · cases hc0 : c.toList.isEmpty
        · obtain ⟨inner, R⟩ := rt_of a ByteArray.empty c ha hen
          exact p11_ny F a b c _ _ inner w hF h (by simp) R ha he0 hez hc0
        · exact p11_nc0 a b c w h ha hc0
    · cases hb0 : b.toList.isEmpty
      · rcases first_at b 58 b.size (Nat.le_refl _) with hb | ⟨j, hj, e58, hb⟩
        · replace hb : ∀ k (hk : k < b.size), b[k] ≠ 58 := fun k hk => hb k hk hk
          cases y
          · obtain ⟨inner, R⟩ := rt_of a b ByteArray.empty ha hb
            exact p11_yn F a b c _ _ inner w hF h (by simp) R ha hb hb0 he0 hez
          · cases hc0 : c.toList.isEmpty
            · obtain ⟨inner, R⟩ := rt_of a b c ha hb
              exact p11_yy F a b c _ inner w hF h (by simp) R ha hb hb0 hc0
            · exact p11_yc0 a b c w h ha hb hb0 hc0
        · exact p11_b58 a b c y w h ha hb0 j hj e58 hb
      · exact p11_b0 a b c y w h ha hb0
  · exact p11_91 a b c x y w h j hj e91 hb

set_option maxRecDepth 100000 in
theorem slice_round_trip_contract {H : Type} {enc : TypeId × Value → H} (F : Interp) (W : World) (base : Nat) (args : Array Value) (ds : List (DataW H)) (ps : List MemPlace) (hF : F.told.answers W.tape)
    (hval : ∀ (j : Nat) t v, ([9, 9, 9, 4, 4] : List TypeId)[j]? = some t → args[j]? = some v → Value.okWide Tryf.prog W .any base t v)
    (hA : DataW.TrodAll enc Tryf.prog W 0 (fun _ => true) true [9, 9, 9, 4, 4] args.toList ds ps) (_ : ∀ x ∈ ps, x.block < W.heap.size)
    (hsz : (DataW.weightsEach Tryf.prog [9, 9, 9, 4, 4] ds).all (· ≤ reachBytes) = true) :
    Calls Tryf.prog 11 args W fun e W' => e = .returned (.bool true) ∧ Below W.heap.size W W' := by
  obtain ⟨v0, vs0, d0, ds0, p0, q0, hargs, rfl, rfl, h0, r0⟩ := trodAll_cons hA
  obtain ⟨v1, vs1, d1, ds1, p1, q1, rfl, rfl, rfl, h1, r1⟩ := trodAll_cons r0
  obtain ⟨v2, vs2, d2, ds2, p2, q2, rfl, rfl, rfl, h2, r2⟩ := trodAll_cons r1
  obtain ⟨v3, vs3, d3, ds3, p3, q3, rfl, rfl, rfl, h3, r3⟩ := trodAll_cons r2
  obtain ⟨v4, vs4, d4, ds4, p4, q4, rfl, rfl, rfl, h4, r4⟩ := trodAll_cons r3
  obtain ⟨rfl, rfl, rfl⟩ := trodAll_nil r4
  obtain rfl : args = #[v0, v1, v2, v3, v4] := by apply Array.ext'; exact hargs
  obtain ⟨a, rfl, rfl, rfl, _⟩ := open_string Tryf.underlying9 (hval 0 9 v0 rfl rfl) h0
  obtain ⟨b, rfl, rfl, rfl, _⟩ := open_string Tryf.underlying9 (hval 1 9 v1 rfl rfl) h1
  obtain ⟨c, rfl, rfl, rfl, _⟩ := open_string Tryf.underlying9 (hval 2 9 v2 rfl rfl) h2
  obtain ⟨x, rfl, rfl, rfl⟩ := open_bool Tryf.underlying4 (hval 3 4 v3 rfl rfl) h3
  obtain ⟨y, rfl, rfl, rfl⟩ := open_bool Tryf.underlying4 (hval 4 4 v4 rfl rfl) h4
  have hl0 : a.data.toList.length ≤ reachBytes := sized_string hsz (j := 0) (t := 9) rfl rfl
  have hl1 : b.data.toList.length ≤ reachBytes := sized_string hsz (j := 1) (t := 9) rfl rfl
  have hl2 : c.data.toList.length ≤ reachBytes := sized_string hsz (j := 2) (t := 9) rfl rfl
  have hr47 := reachBytes_lt
  rw [size_list] at hl0 hl1 hl2
  by_cases hn : a.size + b.size + c.size ≤ 1048576
  · exact p11_any F a b c x y W hF hn
  · exact p11_no a b c x y W (by omega) (by omega) (by omega) (by omega)

theorem slice_round_trip_wf : Rows.fnSliceStringRoundTripRow.wf (OpenSpec.ofChange Rows.fnSliceStringRoundTripSpec) = true := by kernel_rfl
theorem slice_round_trip_tie : namedTie Tryf.pinned.checked.prog Rows.fnSliceStringRoundTripRow.namedList (OpenSpec.ofChange Rows.fnSliceStringRoundTripSpec).vars = true := by kernel_rfl
theorem slice_round_trip_fn : Tryf.pinned.checked.prog.funcNamed Rows.fnSliceStringRoundTripRow.func = some 11 := by kernel_rfl
theorem slice_round_trip_rd : (Tryf.f11.params.toList.all fun t => Tryf.pinned.checked.prog.readableRec t) = true := by kernel_rfl
theorem slice_round_trip_inst : Tryf.f11.isInstance Tryf.pinned.checked.prog Rows.fnSliceStringRoundTripRow.origin Rows.fnSliceStringRoundTripRow.targs := of_decide_eq_true (by kernel_rfl)
theorem slice_round_trip_wrap : Tryf.f11.isWrapper Tryf.pinned.checked.prog Rows.fnSliceStringRoundTripRow.wrapper Rows.fnSliceStringRoundTripRow.mainSum := of_decide_eq_true (by kernel_rfl)
theorem slice_round_trip_in : Rows.fnSliceStringRoundTripRow.inPlace = Tryf.pinned.checked.prog.inPlace 11 := by kernel_rfl
theorem slice_round_trip_un : Rows.fnSliceStringRoundTripRow.unfollowed = Tryf.pinned.checked.prog.unfollowed 11 := by kernel_rfl
theorem slice_round_trip_re : Rows.fnSliceStringRoundTripRow.recurses = Tryf.pinned.checked.prog.recurses 11 := by kernel_rfl
theorem slice_round_trip_nm : Rows.fnSliceStringRoundTripRow.named = Tryf.pinned.checked.prog.varsNamed 11 := by kernel_rfl
theorem slice_round_trip_fun : (Tryf.f11.params.toList.all fun t => !Tryf.pinned.checked.prog.wantsStandIn t) = true := by kernel_rfl
theorem slice_round_trip_goes : false = Rows.fnSliceStringRoundTripRow.goesBy Tryf.pinned.checked.prog := by kernel_rfl
theorem slice_round_trip_vl : Rows.fnSliceStringRoundTripRow.veiled = ((Tryf.f11.params.toList ++ (OpenSpec.ofChange Rows.fnSliceStringRoundTripSpec).bare.plain.varTypes Tryf.pinned.checked.prog ++ Tryf.f11.resultTypes.toList).any (Tryf.pinned.checked.prog.veiledRec ·)) := by kernel_rfl
theorem slice_round_trip_vf : Rows.fnSliceStringRoundTripRow.veiledFits Tryf.pinned.checked.prog Tryf.f11.params.toList (Tryf.f11.params.toList ++ (OpenSpec.ofChange Rows.fnSliceStringRoundTripSpec).bare.plain.varTypes Tryf.pinned.checked.prog ++ Tryf.f11.resultTypes.toList) = true := by kernel_rfl
theorem slice_round_trip_init : Tryf.checked.prog.inits.idxOf? 11 = none := by kernel_rfl
theorem slice_round_trip_ts : Tryf.f11.params.toList = [9, 9, 9, 4, 4] := by kernel_rfl
theorem slice_round_trip_rt : Tryf.f11.resultTypes = #[4] := by kernel_rfl

set_option maxRecDepth 100000 in
theorem slice_round_trip_lifted (os : Os) (started : os.Started) (H : Type) (enc : TypeId × Value → H) :
    ReturnsInTold none {} Tryf.checked os 11 .any Input.okWide ((OpenSpec.ofChange Rows.fnSliceStringRoundTripSpec).preRow enc Tryf.checked.prog Tryf.f11 [] false []) (fun F => ((OpenSpec.ofChange Rows.fnSliceStringRoundTripSpec).at F).post enc Tryf.checked.prog Tryf.f11 false true false false) (aloneAtReturn Tryf.checked.prog) nothingAlways := by
  refine law_lifted 11 Tryf.f11 [9, 9, 9, 4, 4] slice_round_trip_ts slice_round_trip_rt rfl ?_ (reads_all _ (by decide)) slice_round_trip_init Tryf.func11 os started H enc
    (OpenSpec.witness_stopped (enc := enc) (C := Tryf.checked) false ⟨#[], #[.string ⟨#[]⟩, .string ⟨#[]⟩, .string ⟨#[]⟩, .bool false, .bool false], []⟩ 8 (by kernel_rfl) (by kernel_rfl) (by kernel_rfl) (by kernel_rfl)) ?_
  · intro H ds hd
    match ds, hd with
    | [d1, d2, d3, d4, d5], _ => rfl
  · intro F W base args ds ps hF hval hA hlt hsz
    exact slice_round_trip_contract F W base args ds ps hF hval hA hlt hsz

set_option maxHeartbeats 1000000 in
set_option maxRecDepth 100000 in
theorem slice_round_trip : Rows.FnSliceStringRoundTripToldSaid :=
  Claim7.holds_of_told_any 11 Tryf.f11 "fmt.Sprintf" [] [] _ _ _ slice_round_trip_wf rfl rfl rfl Tryf.laidOut Tryf.rowed rfl ⟨rfl, rfl, rfl, rfl, rfl, rfl, rfl⟩ rfl rfl slice_round_trip_tie slice_round_trip_fn Tryf.func11 slice_round_trip_rd
    slice_round_trip_inst slice_round_trip_wrap Tryf.stops.symm rfl Tryf.stopKnobs.symm Tryf.worded
    slice_round_trip_in slice_round_trip_un slice_round_trip_re slice_round_trip_nm (by as_aux_lemma => kernel_rfl) (by as_aux_lemma => kernel_rfl) (by as_aux_lemma => kernel_rfl) (by as_aux_lemma => kernel_rfl) (by as_aux_lemma => kernel_rfl) rfl (by as_aux_lemma => kernel_rfl) rfl rfl
    rfl rfl
    rfl Tryf.mainIs Tryf.looks slice_round_trip_fun (by decide) slice_round_trip_goes
    (OpenClaim.moreEntering_of Tryf.enters (by as_aux_lemma => kernel_rfl) Tryf.heard (by as_aux_lemma => kernel_rfl) (by as_aux_lemma => kernel_rfl) (by as_aux_lemma => kernel_rfl) (by as_aux_lemma => kernel_rfl) Tryf.plainKeys Tryf.liftsFinal Tryf.make)
    ⟨_, WideRow.started_initial, Tryf.quiet _⟩
    (fun os started _ H enc _ => slice_round_trip_lifted os started H enc)
    ⟨slice_round_trip_vl, slice_round_trip_vf⟩

end Go.Proofs.YtjpkoddghagdgaaFmtR
