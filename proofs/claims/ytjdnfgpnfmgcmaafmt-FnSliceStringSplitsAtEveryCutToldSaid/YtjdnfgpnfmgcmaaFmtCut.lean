/-
  FnSliceStringSplitsAtEveryCut returns true for every text and every cut, and no argument turns. Conditions: none.
-/
import Derived.Test.YtjdnfgpnfmgcmaaFmtSs
import Derived.Test.YtjdnfgpnfmgcmaaFmtSb1
import Derived.Test.YtjdnfgpnfmgcmaaFmtSb2
import Derived.Test.YtjdnfgpnfmgcmaaFmtSb3
import Derived.Test.YtjdnfgpnfmgcmaaFmtSb7
import Derived.Test.YtjdnfgpnfmgcmaaFmtSb4
import Derived.Test.YtjdnfgpnfmgcmaaFmtSb5
import Derived.Test.YtjdnfgpnfmgcmaaFmtSb6
import Derived.Test.YtjdnfgpnfmgcmaaFmtL3
import Derived.Test.YtjdnfgpnfmgcmaaFmtFactsB
namespace Go.Proofs.YtjdnfgpnfmgcmaaFmt
open Go.RowKit Go.Extern.Stop Go.Stop Go.Extern
open Go.ChangeShapes Go.WideShapes Go.ChangeAt Go.Kit
open Go.ChangeMaps (open_string shut_string)

/-- The address of a part. -/
theorem part_ad (B A cap : Nat) (_ : A ≤ cap) : Addr.add ⟨B, 0, none⟩ (if 0 < cap - A then A else 0) = ⟨B, if 0 < cap - A then A else 0, none⟩ := by
  rw [add_lit, Nat.zero_add]

theorem gave_row {B A n cap N : Nat} {a b : Int} {w : World} (hA : A ≤ cap) (hn : n ≤ cap - A)
    (f : ∀ ad : Addr, ad = Addr.add ⟨B, 0, none⟩ (if 0 < cap - A then A else 0) → Calls Tryf.prog 10 #[.iface 35 (.slice (some ⟨B, 0, none⟩) N cap), .iface 3 (.int .i64 a), .iface 3 (.int .i64 b)] w fun e w' => e = .returned (.iface 35 (.slice (some ad) n (cap - A))) ∧ Below w.heap.size w w') :
    Calls Tryf.prog 7 #[.slice (some ⟨B, 0, none⟩) N cap, .int .i64 a, .int .i64 b] w fun e w' => GaveRow B A n (cap - A) w e w' := by
  have h := zz7 _ _ N cap n (cap - A) a b w (f _ rfl)
  refine h.mono fun e w' hh => ⟨if 0 < cap - A then A else 0, ?_, ?_, hh.2⟩
  · by_cases h0 : 0 < cap - A
    · exact .inl (if_pos h0)
    · exact .inr (by omega)
  · rw [hh.1, part_ad B A cap hA]

theorem cuts (s : ByteArray) (k : Int) (hs : s.size ≤ 1048576) (hk1 : -9223372036854775808 ≤ k) (hk2 : k ≤ 9223372036854775807) : ∃ c, Cuts s k c := by
  by_cases k0 : 0 ≤ k
  · by_cases k1 : k ≤ s.size
    · obtain ⟨m, rfl⟩ : ∃ m : Nat, k = (m : Int) := ⟨k.toNat, by omega⟩
      have hm : m ≤ s.size := by omega
      refine ⟨m, hm, fun w => zz6 _ _ _ _ w (str_p1 s s.size rfl 0 m w hs (Nat.zero_le _) hm), fun w => zz6 _ _ _ _ w (str_p1 s s.size rfl m s.size w hs hm (Nat.le_refl _)), fun B cap w hc => ?_, fun B cap w hc => ?_⟩
      · exact gave_row (Nat.zero_le _) (by omega) fun ad had => byts_p1 ad B 0 s.size cap hc 0 m w hs (Nat.zero_le _) hm had
      · exact gave_row (by omega) (by omega) fun ad had => byts_p1 ad B 0 s.size cap hc m s.size w hs hm (Nat.le_refl _) had
    · refine ⟨s.size, Nat.le_refl _, fun w => zz6 _ _ _ _ w (str_p2 s s.size rfl 0 k w hs (Nat.zero_le _) (by omega) hk2), fun w => zz6 _ _ _ _ w (str_p5 s s.size rfl k w hs (by omega) hk2), fun B cap w hc => ?_, fun B cap w hc => ?_⟩
      · exact gave_row (Nat.zero_le _) (by omega) fun ad had => byts_p2 ad B 0 s.size cap hc 0 k w hs (Nat.zero_le _) (by omega) hk2 had
      · exact gave_row (by omega) (by omega) fun ad had => byts_p5 ad B 0 s.size cap hc k w hs (by omega) hk2 had
  · by_cases k1 : 0 ≤ (s.size : Int) + k
    · obtain ⟨m, hm⟩ : ∃ m : Nat, (s.size : Int) + k = (m : Int) := ⟨((s.size : Int) + k).toNat, by omega⟩
      have hml : m ≤ s.size := by omega
      refine ⟨m, hml, fun w => zz6 _ _ _ _ w (str_p3 s s.size rfl 0 m k w hs (Nat.zero_le _) (by omega) hm hk1), fun w => zz6 _ _ _ _ w (str_p6 s s.size rfl k m w hs hml (by omega) hm hk1), fun B cap w hc => ?_, fun B cap w hc => ?_⟩
      · exact gave_row (Nat.zero_le _) (by omega) fun ad had => byts_p3 ad B 0 s.size cap hc 0 m k w hs (Nat.zero_le _) (by omega) hm hk1 had
      · exact gave_row (by omega) (by omega) fun ad had => byts_p6 ad B 0 s.size cap hc k m w hs hml (by omega) hm hk1 had
    · refine ⟨0, Nat.zero_le _, fun w => zz6 _ _ _ _ w (str_p4 s s.size rfl k w hs (by omega) (by omega) hk1), fun w => zz6 _ _ _ _ w (str_p7 s s.size rfl k w hs (by omega) (by omega) hk1), fun B cap w hc => ?_, fun B cap w hc => ?_⟩
      · exact gave_row (Nat.zero_le _) (by omega) fun ad had => byts_p4 ad B 0 s.size cap hc k w hs (by omega) (by omega) hk1 had
      · exact gave_row (Nat.zero_le _) (by omega) fun ad had => byts_p7 ad B 0 s.size cap hc k w hs (by omega) (by omega) hk1 had

theorem read_3 : Tryf.prog.readableRec 3 = true ∧ 3 < Tryf.prog.types.size := ⟨by kernel_rfl, of_decide_eq_true (by kernel_rfl)⟩
theorem read_9 : Tryf.prog.readableRec 9 = true ∧ 9 < Tryf.prog.types.size := ⟨by kernel_rfl, of_decide_eq_true (by kernel_rfl)⟩
theorem reads_all (ts : List TypeId) (h : ts.all (fun t => t == 3 || t == 9) = true) : ∀ t ∈ ts, Tryf.prog.readableRec t = true ∧ t < Tryf.prog.types.size := by
  intro t ht
  have := List.all_eq_true.1 h t ht
  simp only [Bool.or_eq_true, beq_iff_eq] at this
  rcases this with rfl | rfl
  · exact read_3
  · exact read_9

set_option maxRecDepth 100000 in
theorem slice_cut_contract {H : Type} {enc : TypeId × Value → H} (F : Interp) (W : World) (base : Nat) (args : Array Value) (ds : List (DataW H)) (ps : List MemPlace) (_ : F.told.answers W.tape)
    (hval : ∀ (j : Nat) t v, ([9, 3] : List TypeId)[j]? = some t → args[j]? = some v → Value.okWide Tryf.prog W .any base t v)
    (hA : DataW.TrodAll enc Tryf.prog W 0 (fun _ => true) true [9, 3] args.toList ds ps) (_ : ∀ x ∈ ps, x.block < W.heap.size)
    (_ : (DataW.weightsEach Tryf.prog [9, 3] ds).all (· ≤ reachBytes) = true) :
    Calls Tryf.prog 3 args W fun e W' => e = .returned (.bool true) ∧ Below W.heap.size W W' := by
  obtain ⟨v0, v1, d0, d1, p0, p1, rfl, rfl, rfl, h0, h1⟩ := trodAll_two hA
  obtain ⟨s, rfl, rfl, rfl, hs⟩ := open_string Tryf.underlying9 (hval 0 9 v0 rfl rfl) h0
  obtain ⟨k, rfl, rfl, rfl, wk⟩ := open_int Tryf.underlying3 (hval 1 3 v1 rfl rfl) h1
  by_cases h : s.size ≤ 524288
  · have hk : -9223372036854775808 ≤ k ∧ k ≤ 9223372036854775807 := by
      simp [Lit.wf, IntKind.min, IntKind.max, IntKind.signed, IntKind.bits] at wk
      omega
    obtain ⟨c, hc⟩ := cuts s k (by omega) hk.1 hk.2
    exact l3_yes s k c W h hc
  · exact l3_no s k W (by omega) hs


theorem slice_cut_wf : Rows.fnSliceStringSplitsAtEveryCutRow.wf (OpenSpec.ofChange Rows.fnSliceStringSplitsAtEveryCutSpec) = true := by kernel_rfl
theorem slice_cut_tie : namedTie Tryf.pinned.checked.prog Rows.fnSliceStringSplitsAtEveryCutRow.namedList (OpenSpec.ofChange Rows.fnSliceStringSplitsAtEveryCutSpec).vars = true := by kernel_rfl
theorem slice_cut_fn : Tryf.pinned.checked.prog.funcNamed Rows.fnSliceStringSplitsAtEveryCutRow.func = some 3 := by kernel_rfl
theorem slice_cut_rd : (Tryf.f3.params.toList.all fun t => Tryf.pinned.checked.prog.readableRec t) = true := by kernel_rfl
theorem slice_cut_inst : Tryf.f3.isInstance Tryf.pinned.checked.prog Rows.fnSliceStringSplitsAtEveryCutRow.origin Rows.fnSliceStringSplitsAtEveryCutRow.targs := of_decide_eq_true (by kernel_rfl)
theorem slice_cut_wrap : Tryf.f3.isWrapper Tryf.pinned.checked.prog Rows.fnSliceStringSplitsAtEveryCutRow.wrapper Rows.fnSliceStringSplitsAtEveryCutRow.mainSum := of_decide_eq_true (by kernel_rfl)
theorem slice_cut_in : Rows.fnSliceStringSplitsAtEveryCutRow.inPlace = Tryf.pinned.checked.prog.inPlace 3 := by kernel_rfl
theorem slice_cut_un : Rows.fnSliceStringSplitsAtEveryCutRow.unfollowed = Tryf.pinned.checked.prog.unfollowed 3 := by kernel_rfl
theorem slice_cut_re : Rows.fnSliceStringSplitsAtEveryCutRow.recurses = Tryf.pinned.checked.prog.recurses 3 := by kernel_rfl
theorem slice_cut_nm : Rows.fnSliceStringSplitsAtEveryCutRow.named = Tryf.pinned.checked.prog.varsNamed 3 := by kernel_rfl
theorem slice_cut_fun : (Tryf.f3.params.toList.all fun t => !Tryf.pinned.checked.prog.wantsStandIn t) = true := by kernel_rfl
theorem slice_cut_goes : false = Rows.fnSliceStringSplitsAtEveryCutRow.goesBy Tryf.pinned.checked.prog := by kernel_rfl
theorem slice_cut_vl : Rows.fnSliceStringSplitsAtEveryCutRow.veiled = ((Tryf.f3.params.toList ++ (OpenSpec.ofChange Rows.fnSliceStringSplitsAtEveryCutSpec).bare.plain.varTypes Tryf.pinned.checked.prog ++ Tryf.f3.resultTypes.toList).any (Tryf.pinned.checked.prog.veiledRec ·)) := by kernel_rfl
theorem slice_cut_vf : Rows.fnSliceStringSplitsAtEveryCutRow.veiledFits Tryf.pinned.checked.prog Tryf.f3.params.toList (Tryf.f3.params.toList ++ (OpenSpec.ofChange Rows.fnSliceStringSplitsAtEveryCutSpec).bare.plain.varTypes Tryf.pinned.checked.prog ++ Tryf.f3.resultTypes.toList) = true := by kernel_rfl
theorem slice_cut_init : Tryf.checked.prog.inits.idxOf? 3 = none := by kernel_rfl
theorem slice_cut_ts : Tryf.f3.params.toList = [9, 3] := by kernel_rfl
theorem slice_cut_rt : Tryf.f3.resultTypes = #[4] := by kernel_rfl

set_option maxRecDepth 100000 in
theorem slice_cut_lifted (os : Os) (started : os.Started) (H : Type) (enc : TypeId × Value → H) :
    ReturnsInTold none {} Tryf.checked os 3 .any Input.okWide ((OpenSpec.ofChange Rows.fnSliceStringSplitsAtEveryCutSpec).preRow enc Tryf.checked.prog Tryf.f3 [] false []) (fun F => ((OpenSpec.ofChange Rows.fnSliceStringSplitsAtEveryCutSpec).at F).post enc Tryf.checked.prog Tryf.f3 false true false false) (aloneAtReturn Tryf.checked.prog) nothingAlways := by
  refine law_lifted 3 Tryf.f3 [9, 3] slice_cut_ts slice_cut_rt rfl ?_ (reads_all _ (by decide)) slice_cut_init Tryf.func3 os started H enc
    (OpenSpec.witness_stopped (enc := enc) (C := Tryf.checked) false ⟨#[], #[.string ⟨#[]⟩, .int .i64 0], []⟩ 8 (by kernel_rfl) (by kernel_rfl) (by kernel_rfl) (by kernel_rfl)) ?_
  · intro H ds hd
    match ds, hd with
    | [d1, d2], _ => rfl
  · intro F W base args ds ps hF hval hA hlt hsz
    exact slice_cut_contract F W base args ds ps hF hval hA hlt hsz

set_option maxHeartbeats 1000000 in
set_option maxRecDepth 100000 in
theorem slice_cut : Rows.FnSliceStringSplitsAtEveryCutToldSaid :=
  Claim7.holds_of_told_any 3 Tryf.f3 "fmt.Sprintf" [] [] _ _ _ slice_cut_wf rfl rfl rfl Tryf.laidOut Tryf.rowed rfl ⟨rfl, rfl, rfl, rfl, rfl, rfl, rfl⟩ rfl rfl slice_cut_tie slice_cut_fn Tryf.func3 slice_cut_rd
    slice_cut_inst slice_cut_wrap Tryf.stops.symm rfl Tryf.stopKnobs.symm Tryf.worded
    slice_cut_in slice_cut_un slice_cut_re slice_cut_nm (by as_aux_lemma => kernel_rfl) (by as_aux_lemma => kernel_rfl) (by as_aux_lemma => kernel_rfl) (by as_aux_lemma => kernel_rfl) (by as_aux_lemma => kernel_rfl) rfl (by as_aux_lemma => kernel_rfl) rfl rfl
    rfl rfl
    rfl Tryf.mainIs Tryf.looks slice_cut_fun (by decide) slice_cut_goes
    (OpenClaim.moreEntering_of Tryf.enters (by as_aux_lemma => kernel_rfl) Tryf.heard (by as_aux_lemma => kernel_rfl) (by as_aux_lemma => kernel_rfl) (by as_aux_lemma => kernel_rfl) (by as_aux_lemma => kernel_rfl) Tryf.plainKeys Tryf.liftsFinal Tryf.make)
    ⟨_, WideRow.started_initial, Tryf.quiet _⟩
    (fun os started _ H enc _ => slice_cut_lifted os started H enc)
    ⟨slice_cut_vl, slice_cut_vf⟩

end Go.Proofs.YtjdnfgpnfmgcmaaFmt
