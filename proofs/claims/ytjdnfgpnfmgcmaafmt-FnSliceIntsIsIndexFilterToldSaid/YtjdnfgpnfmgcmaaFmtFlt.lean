/-
  FnSliceIntsIsIndexFilter returns true for every list of whole numbers and all bounds, and no argument turns. Conditions: none.
-/
import Derived.Test.YtjdnfgpnfmgcmaaFmtWin
import Derived.Test.YtjdnfgpnfmgcmaaFmtL4
import Derived.Test.YtjdnfgpnfmgcmaaFmtFactsB
import Derived.ChangeSlices
namespace Go.Proofs.YtjdnfgpnfmgcmaaFmt
open Go.RowKit Go.Extern.Stop Go.Stop Go.Extern
open Go.ChangeShapes Go.WideShapes Go.ChangeAt Go.Kit

theorem Tryf.cells3 : Tryf.prog.cellsOf 3 = 1 := by kernel_rfl
theorem read_3 : Tryf.prog.readableRec 3 = true ∧ 3 < Tryf.prog.types.size := ⟨by kernel_rfl, of_decide_eq_true (by kernel_rfl)⟩
theorem read_39 : Tryf.prog.readableRec 39 = true ∧ 39 < Tryf.prog.types.size := ⟨by kernel_rfl, of_decide_eq_true (by kernel_rfl)⟩
theorem reads_all (ts : List TypeId) (h : ts.all (fun t => t == 3 || t == 39) = true) : ∀ t ∈ ts, Tryf.prog.readableRec t = true ∧ t < Tryf.prog.types.size := by
  intro t ht
  have := List.all_eq_true.1 h t ht
  simp only [Bool.or_eq_true, beq_iff_eq] at this
  rcases this with rfl | rfl
  · exact read_3
  · exact read_39

theorem cell_block {w : World} {a : Addr} {v : Value} (h : w.cell? a = some v) : a.block < w.heap.size := by
  rcases Nat.lt_or_ge a.block w.heap.size with h' | h'
  · exact h'
  · simp [World.cell?, Array.getElem?_eq_none h'] at h

/-- The call, at a list that lies anywhere. -/
theorem l4_some (p : Addr) (n c : Nat) (zs : List Int) (a b : Int) (w : World) (hz : zs.length = n) (hn : n ≤ 9223372036854775807) (hc : n ≤ c) (hp : 0 < n → p.block < w.heap.size)
    (hcell : ∀ j (hj : j < zs.length), w.cell? (p.add j) = some (.int .i64 zs[j])) (ha1 : -9223372036854775808 ≤ a) (ha2 : a ≤ 9223372036854775807) (hb1 : -9223372036854775808 ≤ b) (hb2 : b ≤ 9223372036854775807) :
    Calls Tryf.prog 4 #[.slice (some p) n c, .int .i64 a, .int .i64 b] w fun e w' => e = .returned (.bool true) ∧ Below w.heap.size w w' := by
  rcases Nat.lt_or_ge 131072 n with h | h
  · exact l4_no _ n c a b w h hn
  · rcases Int.lt_or_le a 0 with a0 | a0 <;> rcases Int.lt_or_le b 0 with b0 | b0
    · obtain ⟨A, B, hw⟩ := windows n a b (a + n) (b + n) (by omega) ha1 ha2 hb1 hb2 (.inl ⟨a0, by omega⟩) (.inl ⟨b0, by omega⟩)
      exact l4_nn p n c zs a b _ _ A B w hz h hc hp hcell a0 rfl ha1 b0 rfl hb1 hw
    · obtain ⟨A, B, hw⟩ := windows n a b (a + n) b (by omega) ha1 ha2 hb1 hb2 (.inl ⟨a0, by omega⟩) (.inr ⟨b0, rfl⟩)
      exact l4_np p n c zs a b _ A B w hz h hc hp hcell a0 rfl ha1 b0 hw
    · obtain ⟨A, B, hw⟩ := windows n a b a (b + n) (by omega) ha1 ha2 hb1 hb2 (.inr ⟨a0, rfl⟩) (.inl ⟨b0, by omega⟩)
      exact l4_pn p n c zs a b _ A B w hz h hc hp hcell a0 b0 rfl hb1 hw
    · obtain ⟨A, B, hw⟩ := windows n a b a b (by omega) ha1 ha2 hb1 hb2 (.inr ⟨a0, rfl⟩) (.inr ⟨b0, rfl⟩)
      exact l4_pp p n c zs a b A B w hz h hc hp hcell a0 b0 hw

theorem l4_none (a b : Int) (w : World) (ha1 : -9223372036854775808 ≤ a) (ha2 : a ≤ 9223372036854775807) (hb1 : -9223372036854775808 ≤ b) (hb2 : b ≤ 9223372036854775807) :
    Calls Tryf.prog 4 #[.slice none 0 0, .int .i64 a, .int .i64 b] w fun e w' => e = .returned (.bool true) ∧ Below w.heap.size w w' := by
  obtain ⟨A, B, hw⟩ := windows 0 a b a b (by omega) ha1 ha2 hb1 hb2
    (by rcases Int.lt_or_le a 0 with a0 | a0
        · exact .inl ⟨a0, by omega⟩
        · exact .inr ⟨a0, rfl⟩)
    (by rcases Int.lt_or_le b 0 with b0 | b0
        · exact .inl ⟨b0, by omega⟩
        · exact .inr ⟨b0, rfl⟩)
  exact l4_nil a b a b A B w ha1 hb1 hw

theorem i64_in {k : Int} (wk : (Lit.int .i64 k).wf = true) : -9223372036854775808 ≤ k ∧ k ≤ 9223372036854775807 := by
  simp [Lit.wf, IntKind.min, IntKind.max, IntKind.signed, IntKind.bits] at wk
  omega

set_option maxRecDepth 100000 in
theorem slice_filter_contract {H : Type} {enc : TypeId × Value → H} (F : Interp) (W : World) (base : Nat) (args : Array Value) (ds : List (DataW H)) (ps : List MemPlace) (_ : F.told.answers W.tape)
    (hval : ∀ (j : Nat) t v, ([39, 3, 3] : List TypeId)[j]? = some t → args[j]? = some v → Value.okWide Tryf.prog W .any base t v)
    (hA : DataW.TrodAll enc Tryf.prog W 0 (fun _ => true) true [39, 3, 3] args.toList ds ps) (_ : ∀ x ∈ ps, x.block < W.heap.size)
    (_ : (DataW.weightsEach Tryf.prog [39, 3, 3] ds).all (· ≤ reachBytes) = true) :
    Calls Tryf.prog 4 args W fun e W' => e = .returned (.bool true) ∧ Below W.heap.size W W' := by
  obtain ⟨v0, v1, v2, d0, d1, d2, p0, p1, p2, rfl, rfl, rfl, h0, h1, h2⟩ := trodAll_three hA
  obtain ⟨a, rfl, rfl, rfl, wa⟩ := open_int Tryf.underlying3 (hval 1 3 v1 rfl rfl) h1
  obtain ⟨b, rfl, rfl, rfl, wb⟩ := open_int Tryf.underlying3 (hval 2 3 v2 rfl rfl) h2
  have ha := i64_in wa
  have hb := i64_in wb
  obtain ⟨a0, len, cap, rfl⟩ := okWide_slice Tryf.underlying39 (hval 0 39 v0 rfl rfl)
  obtain ⟨fuel, hf⟩ := h0
  rcases open_ints Tryf.underlying39 Tryf.underlying3 Tryf.cells3 hf with ⟨hcs, _⟩ | ⟨p, len', cap', zs, hcs, _, hl, hm, hz, _, hcell, _⟩
  · simp [Value.cells] at hcs
    obtain ⟨rfl, rfl, rfl⟩ := hcs
    exact l4_none a b W ha.1 ha.2 hb.1 hb.2
  · simp [Value.cells] at hcs
    obtain ⟨rfl, rfl, rfl⟩ := hcs
    simp only [if_true] at hz
    have hmx : cap ≤ 9223372036854775807 := hm
    have hcl : ∀ j (hj : j < (zs.take len).length), W.cell? (p.add j) = some (.int .i64 (zs.take len)[j]) := fun j hj => by
      have hj2 : j < zs.length := by simp at hj; omega
      rw [hcell j hj2]
      simp [List.getD, List.getElem?_eq_getElem hj2]
    refine l4_some p len cap (zs.take len) a b W (by simp; omega) (by omega) hl (fun h0 => ?_) hcl ha.1 ha.2 hb.1 hb.2
    have := cell_block (hcell 0 (by omega))
    rwa [block_add] at this


theorem slice_filter_wf : Rows.fnSliceIntsIsIndexFilterRow.wf (OpenSpec.ofChange Rows.fnSliceIntsIsIndexFilterSpec) = true := by kernel_rfl
theorem slice_filter_tie : namedTie Tryf.pinned.checked.prog Rows.fnSliceIntsIsIndexFilterRow.namedList (OpenSpec.ofChange Rows.fnSliceIntsIsIndexFilterSpec).vars = true := by kernel_rfl
theorem slice_filter_fn : Tryf.pinned.checked.prog.funcNamed Rows.fnSliceIntsIsIndexFilterRow.func = some 4 := by kernel_rfl
theorem slice_filter_rd : (Tryf.f4.params.toList.all fun t => Tryf.pinned.checked.prog.readableRec t) = true := by kernel_rfl
theorem slice_filter_inst : Tryf.f4.isInstance Tryf.pinned.checked.prog Rows.fnSliceIntsIsIndexFilterRow.origin Rows.fnSliceIntsIsIndexFilterRow.targs := of_decide_eq_true (by kernel_rfl)
theorem slice_filter_wrap : Tryf.f4.isWrapper Tryf.pinned.checked.prog Rows.fnSliceIntsIsIndexFilterRow.wrapper Rows.fnSliceIntsIsIndexFilterRow.mainSum := of_decide_eq_true (by kernel_rfl)
theorem slice_filter_in : Rows.fnSliceIntsIsIndexFilterRow.inPlace = Tryf.pinned.checked.prog.inPlace 4 := by kernel_rfl
theorem slice_filter_un : Rows.fnSliceIntsIsIndexFilterRow.unfollowed = Tryf.pinned.checked.prog.unfollowed 4 := by kernel_rfl
theorem slice_filter_re : Rows.fnSliceIntsIsIndexFilterRow.recurses = Tryf.pinned.checked.prog.recurses 4 := by kernel_rfl
theorem slice_filter_nm : Rows.fnSliceIntsIsIndexFilterRow.named = Tryf.pinned.checked.prog.varsNamed 4 := by kernel_rfl
theorem slice_filter_fun : (Tryf.f4.params.toList.all fun t => !Tryf.pinned.checked.prog.wantsStandIn t) = true := by kernel_rfl
theorem slice_filter_goes : false = Rows.fnSliceIntsIsIndexFilterRow.goesBy Tryf.pinned.checked.prog := by kernel_rfl
theorem slice_filter_vl : Rows.fnSliceIntsIsIndexFilterRow.veiled = ((Tryf.f4.params.toList ++ (OpenSpec.ofChange Rows.fnSliceIntsIsIndexFilterSpec).bare.plain.varTypes Tryf.pinned.checked.prog ++ Tryf.f4.resultTypes.toList).any (Tryf.pinned.checked.prog.veiledRec ·)) := by kernel_rfl
theorem slice_filter_vf : Rows.fnSliceIntsIsIndexFilterRow.veiledFits Tryf.pinned.checked.prog Tryf.f4.params.toList (Tryf.f4.params.toList ++ (OpenSpec.ofChange Rows.fnSliceIntsIsIndexFilterSpec).bare.plain.varTypes Tryf.pinned.checked.prog ++ Tryf.f4.resultTypes.toList) = true := by kernel_rfl
theorem slice_filter_init : Tryf.checked.prog.inits.idxOf? 4 = none := by kernel_rfl
theorem slice_filter_ts : Tryf.f4.params.toList = [39, 3, 3] := by kernel_rfl
theorem slice_filter_rt : Tryf.f4.resultTypes = #[4] := by kernel_rfl

set_option maxRecDepth 100000 in
theorem slice_filter_lifted (os : Os) (started : os.Started) (H : Type) (enc : TypeId × Value → H) :
    ReturnsInTold none {} Tryf.checked os 4 .any Input.okWide ((OpenSpec.ofChange Rows.fnSliceIntsIsIndexFilterSpec).preRow enc Tryf.checked.prog Tryf.f4 [] false []) (fun F => ((OpenSpec.ofChange Rows.fnSliceIntsIsIndexFilterSpec).at F).post enc Tryf.checked.prog Tryf.f4 false true false false) (aloneAtReturn Tryf.checked.prog) nothingAlways := by
  refine law_lifted 4 Tryf.f4 [39, 3, 3] slice_filter_ts slice_filter_rt rfl ?_ (reads_all _ (by decide)) slice_filter_init Tryf.func4 os started H enc
    (OpenSpec.witness_stopped (enc := enc) (C := Tryf.checked) false ⟨#[], #[.slice none 0 0, .int .i64 0, .int .i64 0], []⟩ 8 (by kernel_rfl) (by kernel_rfl) (by kernel_rfl) (by kernel_rfl)) ?_
  · intro H ds hd
    match ds, hd with
    | [d1, d2, d3], _ => rfl
  · intro F W base args ds ps hF hval hA hlt hsz
    exact slice_filter_contract F W base args ds ps hF hval hA hlt hsz

set_option maxHeartbeats 1000000 in
set_option maxRecDepth 100000 in
theorem slice_filter : Rows.FnSliceIntsIsIndexFilterToldSaid :=
  Claim7.holds_of_told_any 4 Tryf.f4 "fmt.Sprintf" [] [] _ _ _ slice_filter_wf rfl rfl rfl Tryf.laidOut Tryf.rowed rfl ⟨rfl, rfl, rfl, rfl, rfl, rfl, rfl⟩ rfl rfl slice_filter_tie slice_filter_fn Tryf.func4 slice_filter_rd
    slice_filter_inst slice_filter_wrap Tryf.stops.symm rfl Tryf.stopKnobs.symm Tryf.worded
    slice_filter_in slice_filter_un slice_filter_re slice_filter_nm (by as_aux_lemma => kernel_rfl) (by as_aux_lemma => kernel_rfl) (by as_aux_lemma => kernel_rfl) (by as_aux_lemma => kernel_rfl) (by as_aux_lemma => kernel_rfl) rfl (by as_aux_lemma => kernel_rfl) rfl rfl
    rfl rfl
    rfl Tryf.mainIs Tryf.looks slice_filter_fun (by decide) slice_filter_goes
    (OpenClaim.moreEntering_of Tryf.enters (by as_aux_lemma => kernel_rfl) Tryf.heard (by as_aux_lemma => kernel_rfl) (by as_aux_lemma => kernel_rfl) (by as_aux_lemma => kernel_rfl) (by as_aux_lemma => kernel_rfl) Tryf.plainKeys Tryf.liftsFinal Tryf.make)
    ⟨_, WideRow.started_initial, Tryf.quiet _⟩
    (fun os started _ H enc _ => slice_filter_lifted os started H enc)
    ⟨slice_filter_vl, slice_filter_vf⟩

end Go.Proofs.YtjdnfgpnfmgcmaaFmt
