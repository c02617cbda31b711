/-
  FnStringNodeStringASCIIExact returns true for every text, and no argument turns. Conditions: none.
-/
import Derived.Test.YtjpkoddghagdgaaFmtRLawB
import Derived.Test.YtjpkoddghagdgaaFmtRZqW
namespace Go.Proofs.YtjpkoddghagdgaaFmtR
open Go.RowKit Go.Extern.Stop Go.Stop Go.Extern
open Go.ChangeShapes Go.WideShapes Go.ChangeAt Go.Kit
open Go.ChangeMaps (open_string shut_string)

set_option maxHeartbeats 400000 in
theorem a5_yes (F : Interp) (s : ByteArray) (w : World) (hF : F.told.answers w.tape) (h : s.size ≤ 1048576) (ha : ∀ k (hk : k < s.size), s[k].toNat < 128) :
    Calls Tryf.prog 5 #[.string s] w fun e w' => e = .returned (.bool true) ∧ Below w.heap.size w w' := by
  have HA := Lib.hid ha
  clear ha
  go_enter Tryf.func5, Tryf.ntmps5
  go_wp2_with fail
  refine (zz15_yes s _ h).mono ?_
  rintro e w' ⟨rfl, rfl⟩
  go_wp2_with fail
  refine (zz16_yes s _ (by omega) HA.out).mono ?_
  rintro e w' ⟨rfl, rfl⟩
  go_wp2_with fail
  refine (string_str F s _ _ (by exact hF) (by omega) (by simp [go_sem])).mono ?_
  rintro e w1 ⟨rfl, hb1⟩
  go_wp2_with fail
  refine (zz18 s _ h HA.out).mono ?_
  rintro e w2 ⟨rfl, hb2⟩
  go_wp2
  go_ret
  refine ⟨ret_bool' ?_, (((Below.refl _ w).alloc (Nat.le_refl _) _).trans (hb1.mono (by simp))).trans (hb2.mono (by have := hb1.size; simp at this; omega))⟩
  have e : FmtText.quote false s.data.toList = QuotePlain.zq s.data.toList := QuotePlain.quote_ascii _ (fun c hc => by
    obtain ⟨k, hk, rfl⟩ := List.getElem_of_mem hc
    exact HA.out k hk)
  rw [e]
  exact beq_self_eq_true _

set_option maxHeartbeats 400000 in
theorem a5_not (s : ByteArray) (w : World) (h : s.size ≤ 1048576) (j : Nat) (hj : j < s.size) (ha : 128 ≤ s[j].toNat) :
    Calls Tryf.prog 5 #[.string s] w fun e w' => e = .returned (.bool true) ∧ Below w.heap.size w w' := by
  have HA := Lib.hid ha
  clear ha
  go_enter Tryf.func5, Tryf.ntmps5
  go_wp2_with fail
  refine (zz15_yes s _ h).mono ?_
  rintro e w' ⟨rfl, rfl⟩
  go_wp2_with fail
  refine (zz16_no s _ (by omega) j hj HA.out).mono ?_
  rintro e w' ⟨rfl, rfl⟩
  go_wp2
  go_ret
  exact ⟨rfl, Below.refl _ _⟩

set_option maxHeartbeats 400000 in
theorem a5_no (s : ByteArray) (w : World) (h : 1048576 < s.size) (hs : s.size ≤ 140737488355328) :
    Calls Tryf.prog 5 #[.string s] w fun e w' => e = .returned (.bool true) ∧ Below w.heap.size w w' := by
  go_enter Tryf.func5, Tryf.ntmps5
  go_wp2_with fail
  refine (zz15_no _ _ h hs).mono ?_
  rintro e w' ⟨rfl, rfl⟩
  go_wp2
  go_ret
  exact ⟨rfl, Below.refl _ _⟩

set_option maxRecDepth 100000 in
theorem string_ascii_contract {H : Type} {enc : TypeId × Value → H} (F : Interp) (W : World) (base : Nat) (args : Array Value) (ds : List (DataW H)) (ps : List MemPlace) (hF : F.told.answers W.tape)
    (hval : ∀ (j : Nat) t v, ([9] : List TypeId)[j]? = some t → args[j]? = some v → Value.okWide Tryf.prog W .any base t v)
    (hA : DataW.TrodAll enc Tryf.prog W 0 (fun _ => true) true [9] args.toList ds ps) (_ : ∀ x ∈ ps, x.block < W.heap.size)
    (hsz : (DataW.weightsEach Tryf.prog [9] ds).all (· ≤ reachBytes) = true) :
    Calls Tryf.prog 5 args W fun e W' => e = .returned (.bool true) ∧ Below W.heap.size W W' := by
  obtain ⟨v0, d0, rfl, rfl, h0⟩ := trodAll_one hA
  obtain ⟨s, rfl, rfl, rfl, _⟩ := open_string Tryf.underlying9 (hval 0 9 v0 rfl rfl) h0
  have hl0 : s.data.toList.length ≤ reachBytes := sized_string hsz (j := 0) (t := 9) rfl rfl
  have hr47 := reachBytes_lt
  rw [size_list] at hl0
  by_cases hn : s.size ≤ 1048576
  · by_cases ha : ∀ k (hk : k < s.size), s[k].toNat < 128
    · exact a5_yes F s W hF hn ha
    · simp only [Classical.not_forall, Nat.not_lt] at ha
      obtain ⟨j, hj, hge⟩ := ha
      exact a5_not s W hn j hj hge
  · exact a5_no s W (by omega) (by omega)


theorem string_ascii_wf : Rows.fnStringNodeStringASCIIExactRow.wf (OpenSpec.ofChange Rows.fnStringNodeStringASCIIExactSpec) = true := by kernel_rfl
theorem string_ascii_tie : namedTie Tryf.pinned.checked.prog Rows.fnStringNodeStringASCIIExactRow.namedList (OpenSpec.ofChange Rows.fnStringNodeStringASCIIExactSpec).vars = true := by kernel_rfl
theorem string_ascii_fn : Tryf.pinned.checked.prog.funcNamed Rows.fnStringNodeStringASCIIExactRow.func = some 5 := by kernel_rfl
theorem string_ascii_rd : (Tryf.f5.params.toList.all fun t => Tryf.pinned.checked.prog.readableRec t) = true := by kernel_rfl
theorem string_ascii_inst : Tryf.f5.isInstance Tryf.pinned.checked.prog Rows.fnStringNodeStringASCIIExactRow.origin Rows.fnStringNodeStringASCIIExactRow.targs := of_decide_eq_true (by kernel_rfl)
theorem string_ascii_wrap : Tryf.f5.isWrapper Tryf.pinned.checked.prog Rows.fnStringNodeStringASCIIExactRow.wrapper Rows.fnStringNodeStringASCIIExactRow.mainSum := of_decide_eq_true (by kernel_rfl)
theorem string_ascii_in : Rows.fnStringNodeStringASCIIExactRow.inPlace = Tryf.pinned.checked.prog.inPlace 5 := by kernel_rfl
theorem string_ascii_un : Rows.fnStringNodeStringASCIIExactRow.unfollowed = Tryf.pinned.checked.prog.unfollowed 5 := by kernel_rfl
theorem string_ascii_re : Rows.fnStringNodeStringASCIIExactRow.recurses = Tryf.pinned.checked.prog.recurses 5 := by kernel_rfl
theorem string_ascii_nm : Rows.fnStringNodeStringASCIIExactRow.named = Tryf.pinned.checked.prog.varsNamed 5 := by kernel_rfl
theorem string_ascii_fun : (Tryf.f5.params.toList.all fun t => !Tryf.pinned.checked.prog.wantsStandIn t) = true := by kernel_rfl
theorem string_ascii_goes : false = Rows.fnStringNodeStringASCIIExactRow.goesBy Tryf.pinned.checked.prog := by kernel_rfl
theorem string_ascii_vl : Rows.fnStringNodeStringASCIIExactRow.veiled = ((Tryf.f5.params.toList ++ (OpenSpec.ofChange Rows.fnStringNodeStringASCIIExactSpec).bare.plain.varTypes Tryf.pinned.checked.prog ++ Tryf.f5.resultTypes.toList).any (Tryf.pinned.checked.prog.veiledRec ·)) := by kernel_rfl
theorem string_ascii_vf : Rows.fnStringNodeStringASCIIExactRow.veiledFits Tryf.pinned.checked.prog Tryf.f5.params.toList (Tryf.f5.params.toList ++ (OpenSpec.ofChange Rows.fnStringNodeStringASCIIExactSpec).bare.plain.varTypes Tryf.pinned.checked.prog ++ Tryf.f5.resultTypes.toList) = true := by kernel_rfl
theorem string_ascii_init : Tryf.checked.prog.inits.idxOf? 5 = none := by kernel_rfl
theorem string_ascii_ts : Tryf.f5.params.toList = [9] := by kernel_rfl
theorem string_ascii_rt : Tryf.f5.resultTypes = #[4] := by kernel_rfl

set_option maxRecDepth 100000 in
theorem string_ascii_lifted (os : Os) (started : os.Started) (H : Type) (enc : TypeId × Value → H) :
    ReturnsInTold none {} Tryf.checked os 5 .any Input.okWide ((OpenSpec.ofChange Rows.fnStringNodeStringASCIIExactSpec).preRow enc Tryf.checked.prog Tryf.f5 [] false []) (fun F => ((OpenSpec.ofChange Rows.fnStringNodeStringASCIIExactSpec).at F).post enc Tryf.checked.prog Tryf.f5 false true false false) (aloneAtReturn Tryf.checked.prog) nothingAlways := by
  refine law_lifted 5 Tryf.f5 [9] string_ascii_ts string_ascii_rt rfl ?_ (reads_all _ (by decide)) string_ascii_init Tryf.func5 os started H enc
    (OpenSpec.witness_stopped (enc := enc) (C := Tryf.checked) false ⟨#[], #[.string ⟨#[]⟩], []⟩ 8 (by kernel_rfl) (by kernel_rfl) (by kernel_rfl) (by kernel_rfl)) ?_
  · intro H ds hd
    match ds, hd with
    | [d1], _ => rfl
  · intro F W base args ds ps hF hval hA hlt hsz
    exact string_ascii_contract F W base args ds ps hF hval hA hlt hsz

set_option maxHeartbeats 1000000 in
set_option maxRecDepth 100000 in
theorem string_ascii : Rows.FnStringNodeStringASCIIExactToldSaid :=
  Claim7.holds_of_told_any 5 Tryf.f5 "fmt.Sprintf" [] [] _ _ _ string_ascii_wf rfl rfl rfl Tryf.laidOut Tryf.rowed rfl ⟨rfl, rfl, rfl, rfl, rfl, rfl, rfl⟩ rfl rfl string_ascii_tie string_ascii_fn Tryf.func5 string_ascii_rd
    string_ascii_inst string_ascii_wrap Tryf.stops.symm rfl Tryf.stopKnobs.symm Tryf.worded
    string_ascii_in string_ascii_un string_ascii_re string_ascii_nm (by as_aux_lemma => kernel_rfl) (by as_aux_lemma => kernel_rfl) (by as_aux_lemma => kernel_rfl) (by as_aux_lemma => kernel_rfl) (by as_aux_lemma => kernel_rfl) rfl (by as_aux_lemma => kernel_rfl) rfl rfl
    rfl rfl
    rfl Tryf.mainIs Tryf.looks string_ascii_fun (by decide) string_ascii_goes
    (OpenClaim.moreEntering_of Tryf.enters (by as_aux_lemma => kernel_rfl) Tryf.heard (by as_aux_lemma => kernel_rfl) (by as_aux_lemma => kernel_rfl) (by as_aux_lemma => kernel_rfl) (by as_aux_lemma => kernel_rfl) Tryf.plainKeys Tryf.liftsFinal Tryf.make)
    ⟨_, WideRow.started_initial, Tryf.quiet _⟩
    (fun os started _ H enc _ => string_ascii_lifted os started H enc)
    ⟨string_ascii_vl, string_ascii_vf⟩

end Go.Proofs.YtjpkoddghagdgaaFmtR
