/-
  FnWalkCountsSharedNodesOncePerOccurrence returns true for every k and either root, and no argument turns. Conditions: none.
-/
import Derived.Test.YtfdnbkdkikaadaaFmtWalk
import Derived.Test.YtfdnbkdkikaadaaFmtFactsB
namespace Go.Proofs.YtfdnbkdkikaadaaFmt
open Go.RowKit Go.Extern.Stop Go.Stop Go.Extern
open Go.ChangeShapes Go.WideShapes Go.ChangeAt Go.Kit

theorem read_3 : Tryf.prog.readableRec 3 = true ∧ 3 < Tryf.prog.types.size := ⟨by kernel_rfl, of_decide_eq_true (by kernel_rfl)⟩
theorem read_4 : Tryf.prog.readableRec 4 = true ∧ 4 < Tryf.prog.types.size := ⟨by kernel_rfl, of_decide_eq_true (by kernel_rfl)⟩
theorem reads_all (ts : List TypeId) (h : ts.all (fun t => t == 3 || t == 4) = true) : ∀ t ∈ ts, Tryf.prog.readableRec t = true ∧ t < Tryf.prog.types.size := by
  intro t ht
  have := List.all_eq_true.1 h t ht
  simp only [Bool.or_eq_true, beq_iff_eq] at this
  rcases this with rfl | rfl
  · exact read_3
  · exact read_4

set_option maxHeartbeats 1000000 in
theorem w3_out (k : Int) (r : Bool) (w : World) (h : k < 0 ∨ 20 < k) : Calls Tryf.prog 3 #[.int .i64 k, .bool r] w fun e w' => e = .returned (.bool true) ∧ Below w.heap.size w w' := by
  rcases h with h | h
  · go_enter Tryf.func3, Tryf.ntmps3
    go_wp2
    go_ret
    exact ⟨rfl, Below.refl _ _⟩
  · have h0 : ¬ k < 0 := by omega
    go_enter Tryf.func3, Tryf.ntmps3
    go_wp2
    go_ret
    exact ⟨rfl, Below.refl _ _⟩

set_option maxRecDepth 100000 in
set_option maxHeartbeats 2000000 in
theorem w3_nil (k : Nat) (w : World) (h : k ≤ 20) : Calls Tryf.prog 3 #[.int .i64 k, .bool true] w fun e w' => e = .returned (.bool true) ∧ Below w.heap.size w w' := by
  go_enter Tryf.func3, Tryf.ntmps3
  go_wp2_with fail
  refine (walk_nil _ (w.heap.size + 1) 0 _ ?hA).mono ?_
  case hA => simp [go_sem]
  rintro e w' ⟨rfl, rfl⟩
  go_wp2
  go_ret
  refine ⟨rfl, ?_⟩
  refine Below.alloc ?_ (by simp) _
  exact (Below.refl _ _).alloc (Nat.le_refl _) _

theorem ret_bool' {a b : Bool} (h : a = b) : Ending.returned (.bool a) = .returned (.bool b) := by rw [h]
theorem pow_all : ∀ j : Fin 21, (((2 ^ (j.val + 1) - 1 : Nat) : Int) == wrap64 (wrap64 (2 ^ (j.val + 1)) - 1)) = true := by decide +kernel

theorem cell_new (w : World) (cs : Array Value) (t : TypeId) (k : Nat) : (w.alloc (.cells cs t)).cell? ⟨w.heap.size, k, none⟩ = cs[k]? := by
  have h := cell_of_row (w.alloc (.cells cs t)) w.heap.size k cs t (0, 0) (heap_alloc_new w _)
  exact h

theorem tree_step {s X j : Nat} {w wr : World} {u : Value} {cs : Array Value} (h12 : cs[12]? = some u) (h13 : cs[13]? = some u) (hX : X = s + 1 + 1) (hx : wr.cell? ⟨X, 0, none⟩ = some u) (hfx : wr.frozen? ⟨X, 0, none⟩ = false) (hT : Tree X wr j u)
    (hc : wr.cell? ⟨s, 0, none⟩ = some (.int .i64 0)) (hfc : wr.frozen? ⟨s, 0, none⟩ = false) (hsz : X < wr.heap.size) (hb : Below s w wr) :
    ((wr.setCell ⟨X, 0, none⟩ (.iface 57 (.pointer (some ⟨wr.heap.size, 0, none⟩)))).alloc (.cells cs 59)).cell? ⟨X, 0, none⟩ = some (.iface 57 (.pointer (some ⟨wr.heap.size, 0, none⟩))) ∧
    ((wr.setCell ⟨X, 0, none⟩ (.iface 57 (.pointer (some ⟨wr.heap.size, 0, none⟩)))).alloc (.cells cs 59)).frozen? ⟨X, 0, none⟩ = false ∧
    Tree X ((wr.setCell ⟨X, 0, none⟩ (.iface 57 (.pointer (some ⟨wr.heap.size, 0, none⟩)))).alloc (.cells cs 59)) (j + 1) (.iface 57 (.pointer (some ⟨wr.heap.size, 0, none⟩))) ∧
    ((wr.setCell ⟨X, 0, none⟩ (.iface 57 (.pointer (some ⟨wr.heap.size, 0, none⟩)))).alloc (.cells cs 59)).cell? ⟨s, 0, none⟩ = some (.int .i64 0) ∧
    ((wr.setCell ⟨X, 0, none⟩ (.iface 57 (.pointer (some ⟨wr.heap.size, 0, none⟩)))).alloc (.cells cs 59)).frozen? ⟨s, 0, none⟩ = false ∧
    X < ((wr.setCell ⟨X, 0, none⟩ (.iface 57 (.pointer (some ⟨wr.heap.size, 0, none⟩)))).alloc (.cells cs 59)).heap.size ∧
    Below s w ((wr.setCell ⟨X, 0, none⟩ (.iface 57 (.pointer (some ⟨wr.heap.size, 0, none⟩)))).alloc (.cells cs 59)) := by
  have e1 : (wr.setCell ⟨X, 0, none⟩ (.iface 57 (.pointer (some ⟨wr.heap.size, 0, none⟩)))).heap.size = wr.heap.size := by simp [World.setCell]
  obtain ⟨w1, hw1⟩ : ∃ w1, w1 = wr.setCell ⟨X, 0, none⟩ (.iface 57 (.pointer (some ⟨wr.heap.size, 0, none⟩))) := ⟨_, rfl⟩
  rw [← hw1] at e1 ⊢
  have b1 : Below wr.heap.size w1 (w1.alloc (.cells cs 59)) := (Below.refl _ _).alloc (by rw [e1]; exact Nat.le_refl _) _
  have k1 : w1.cell? ⟨X, 0, none⟩ = some (.iface 57 (.pointer (some ⟨wr.heap.size, 0, none⟩))) := by rw [hw1]; exact World.cell?_setCell_same _ _ _ hx
  have k2 : ∀ p : Addr, p.block ≠ X → w1.cell? p = wr.cell? p := fun p hp => by rw [hw1]; exact World.cell?_setCell_other _ _ _ _ (fun e => hp (by rw [← e]))
  have k3 : ∀ p : Addr, w1.frozen? p = wr.frozen? p := fun p => by rw [hw1]; exact World.frozen?_setCell _ _ _ _
  have k4 : Below s w w1 := by rw [hw1]; exact hb.setCell (p := ⟨X, 0, none⟩) (by show s ≤ X; omega) _
  have hn : ∀ i, (w1.alloc (.cells cs 59)).cell? ⟨wr.heap.size, i, none⟩ = cs[i]? := fun i => by rw [← e1]; exact cell_new _ _ _ _
  have hsz2 : (w1.alloc (.cells cs 59)).heap.size = wr.heap.size + 1 := by simp [e1]
  refine ⟨(b1.cell (p := ⟨X, 0, none⟩) hsz).trans k1, (b1.frozen (p := ⟨X, 0, none⟩) hsz).trans ((k3 _).trans hfx), ⟨wr.heap.size, u, rfl, hsz, by omega, (hn 12).trans h12, (hn 13).trans h13, ?_⟩,
    (b1.cell (p := ⟨s, 0, none⟩) (by show s < wr.heap.size; omega)).trans ((k2 ⟨s, 0, none⟩ (by show s ≠ X; omega)).trans hc), (b1.frozen (p := ⟨s, 0, none⟩) (by show s < wr.heap.size; omega)).trans ((k3 _).trans hfc), by omega, k4.alloc (by omega) _⟩
  exact Tree.same (by omega) (fun p hp hl => (b1.cell (p := p) hl).trans (k2 p (by omega))) j u hT

set_option maxRecDepth 100000 in
set_option maxHeartbeats 4000000 in
theorem w3_tree (k : Nat) (w : World) (h : k ≤ 20) : Calls Tryf.prog 3 #[.int .i64 k, .bool false] w fun e w' => e = .returned (.bool true) ∧ Below w.heap.size w w' := by
  go_enter Tryf.func3, Tryf.ntmps3
  go_wp2
  go_loopw [8] (fun i wr => ∃ (j : Nat) (u : Value), j ≤ k ∧ i = .int .i64 j ∧ wr.cell? ⟨w.heap.size + 1 + 1, 0, none⟩ = some u ∧ wr.frozen? ⟨w.heap.size + 1 + 1, 0, none⟩ = false ∧ Tree (w.heap.size + 1 + 1) wr j u ∧
      wr.cell? ⟨w.heap.size, 0, none⟩ = some (.int .i64 0) ∧ wr.frozen? ⟨w.heap.size, 0, none⟩ = false ∧ w.heap.size + 1 + 1 < wr.heap.size ∧ Below w.heap.size w wr) (fun i _ => k - (intOf i).toNat)
  case atStart =>
    refine ⟨0, .iface 43 (.pointer (some ⟨w.heap.size + 1, 0, none⟩)), Nat.zero_le _, rfl, by simp [go_sem], by simp [go_sem], ⟨_, rfl⟩, by simp [go_sem], by simp [go_sem], by simp, ?_⟩
    repeat' first
      | exact Below.refl _ _
      | refine Below.alloc ?_ (by simp <;> omega) _
  case round =>
    obtain ⟨j, u, hj, rfl, hx, hfx, hT, hc, hfc, hsz, hb⟩ := hrel
    have HT := Lib.hid hT
    have HB := Lib.hid hb
    clear hT hb
    by_cases hlt : j < k
    · obtain ⟨T, p, rfl⟩ := Tree.shape _ _ HT.out
      go_wp2
      go_roundw
      case rel =>
        exact ⟨j + 1, _, by omega, by go_num, tree_step rfl rfl rfl hx hfx HT.out hc hfc hsz HB.out⟩
      case measure => simp [intOf]; omega
    · have hjk : j = k := by omega
      subst hjk
      have hp : 2 ^ (j + 1) ≤ 2 ^ 21 := Nat.pow_le_pow_right (by omega) (by omega)
      have HW := Lib.hid (walk_tree w.heap.size (w.heap.size + 1 + 1) (by omega) j (w.heap.size + 1 + 1) 0 0 u wr (by omega) hx HT.out hc hfc (by omega))
      clear hp
      go_wp2_with fail
      refine HW.out.mono ?_
      rintro e w2 ⟨rfl, c1, c2, c3, c4, c5⟩
      have HB2 : Hid (Below w.heap.size w w2) := HB.out.trans c4
      clear c3 c4 c5 hc hfc hx hfx
      go_wp2_with fail
      go_region
      go_wp2
      go_ret
      exact ⟨ret_bool' (pow_all ⟨j, by omega⟩), HB2.out.drew⟩

set_option maxRecDepth 100000 in
theorem walk_counts_contract {H : Type} {enc : TypeId × Value → H} (F : Interp) (W : World) (base : Nat) (args : Array Value) (ds : List (DataW H)) (ps : List MemPlace) (_ : F.told.answers W.tape)
    (hval : ∀ (j : Nat) t v, ([3, 4] : List TypeId)[j]? = some t → args[j]? = some v → Value.okWide Tryf.prog W .any base t v)
    (hA : DataW.TrodAll enc Tryf.prog W 0 (fun _ => true) true [3, 4] args.toList ds ps) (_ : ∀ x ∈ ps, x.block < W.heap.size)
    (_ : (DataW.weightsEach Tryf.prog [3, 4] ds).all (· ≤ reachBytes) = true) :
    Calls Tryf.prog 3 args W fun e W' => e = .returned (.bool true) ∧ Below W.heap.size W W' := by
  obtain ⟨v0, v1, d0, d1, p0, p1, rfl, rfl, rfl, h0, h1⟩ := trodAll_two hA
  obtain ⟨k, rfl, rfl, rfl, wk⟩ := open_int Tryf.underlying3 (hval 0 3 v0 rfl rfl) h0
  obtain ⟨r, rfl, rfl, rfl⟩ := open_bool Tryf.underlying4 (hval 1 4 v1 rfl rfl) h1
  by_cases h : k < 0 ∨ 20 < k
  · exact w3_out k r W h
  · obtain ⟨n, rfl⟩ : ∃ n : Nat, k = (n : Int) := ⟨k.toNat, by omega⟩
    have hn : n ≤ 20 := by omega
    cases r
    · exact w3_tree n W hn
    · exact w3_nil n W hn


theorem walk_counts_wf : Rows.fnWalkCountsSharedNodesOncePerOccurrenceRow.wf (OpenSpec.ofChange Rows.fnWalkCountsSharedNodesOncePerOccurrenceSpec) = true := by kernel_rfl
theorem walk_counts_tie : namedTie Tryf.pinned.checked.prog Rows.fnWalkCountsSharedNodesOncePerOccurrenceRow.namedList (OpenSpec.ofChange Rows.fnWalkCountsSharedNodesOncePerOccurrenceSpec).vars = true := by kernel_rfl
theorem walk_counts_fn : Tryf.pinned.checked.prog.funcNamed Rows.fnWalkCountsSharedNodesOncePerOccurrenceRow.func = some 3 := by kernel_rfl
theorem walk_counts_rd : (Tryf.f3.params.toList.all fun t => Tryf.pinned.checked.prog.readableRec t) = true := by kernel_rfl
theorem walk_counts_inst : Tryf.f3.isInstance Tryf.pinned.checked.prog Rows.fnWalkCountsSharedNodesOncePerOccurrenceRow.origin Rows.fnWalkCountsSharedNodesOncePerOccurrenceRow.targs := of_decide_eq_true (by kernel_rfl)
theorem walk_counts_wrap : Tryf.f3.isWrapper Tryf.pinned.checked.prog Rows.fnWalkCountsSharedNodesOncePerOccurrenceRow.wrapper Rows.fnWalkCountsSharedNodesOncePerOccurrenceRow.mainSum := of_decide_eq_true (by kernel_rfl)
theorem walk_counts_in : Rows.fnWalkCountsSharedNodesOncePerOccurrenceRow.inPlace = Tryf.pinned.checked.prog.inPlace 3 := by kernel_rfl
theorem walk_counts_un : Rows.fnWalkCountsSharedNodesOncePerOccurrenceRow.unfollowed = Tryf.pinned.checked.prog.unfollowed 3 := by kernel_rfl
theorem walk_counts_re : Rows.fnWalkCountsSharedNodesOncePerOccurrenceRow.recurses = Tryf.pinned.checked.prog.recurses 3 := by kernel_rfl
theorem walk_counts_nm : Rows.fnWalkCountsSharedNodesOncePerOccurrenceRow.named = Tryf.pinned.checked.prog.varsNamed 3 := by kernel_rfl
theorem walk_counts_fun : (Tryf.f3.params.toList.all fun t => !Tryf.pinned.checked.prog.wantsStandIn t) = true := by kernel_rfl
theorem walk_counts_goes : false = Rows.fnWalkCountsSharedNodesOncePerOccurrenceRow.goesBy Tryf.pinned.checked.prog := by kernel_rfl
theorem walk_counts_vl : Rows.fnWalkCountsSharedNodesOncePerOccurrenceRow.veiled = ((Tryf.f3.params.toList ++ (OpenSpec.ofChange Rows.fnWalkCountsSharedNodesOncePerOccurrenceSpec).bare.plain.varTypes Tryf.pinned.checked.prog ++ Tryf.f3.resultTypes.toList).any (Tryf.pinned.checked.prog.veiledRec ·)) := by kernel_rfl
theorem walk_counts_vf : Rows.fnWalkCountsSharedNodesOncePerOccurrenceRow.veiledFits Tryf.pinned.checked.prog Tryf.f3.params.toList (Tryf.f3.params.toList ++ (OpenSpec.ofChange Rows.fnWalkCountsSharedNodesOncePerOccurrenceSpec).bare.plain.varTypes Tryf.pinned.checked.prog ++ Tryf.f3.resultTypes.toList) = true := by kernel_rfl
theorem walk_counts_init : Tryf.checked.prog.inits.idxOf? 3 = none := by kernel_rfl
theorem walk_counts_ts : Tryf.f3.params.toList = [3, 4] := by kernel_rfl
theorem walk_counts_rt : Tryf.f3.resultTypes = #[4] := by kernel_rfl

set_option maxRecDepth 100000 in
theorem walk_counts_lifted (os : Os) (started : os.Started) (H : Type) (enc : TypeId × Value → H) :
    ReturnsInTold none {} Tryf.checked os 3 .any Input.okWide ((OpenSpec.ofChange Rows.fnWalkCountsSharedNodesOncePerOccurrenceSpec).preRow enc Tryf.checked.prog Tryf.f3 [] false []) (fun F => ((OpenSpec.ofChange Rows.fnWalkCountsSharedNodesOncePerOccurrenceSpec).at F).post enc Tryf.checked.prog Tryf.f3 false true false false) (aloneAtReturn Tryf.checked.prog) nothingAlways := by
  refine law_lifted 3 Tryf.f3 [3, 4] walk_counts_ts walk_counts_rt rfl ?_ (reads_all _ (by decide)) walk_counts_init Tryf.func3 os started H enc
    (OpenSpec.witness_stopped (enc := enc) (C := Tryf.checked) false ⟨#[], #[.int .i64 0, .bool false], []⟩ 8 (by kernel_rfl) (by kernel_rfl) (by kernel_rfl) (by kernel_rfl)) ?_
  · intro H ds hd
    match ds, hd with
    | [d1, d2], _ => rfl
  · intro F W base args ds ps hF hval hA hlt hsz
    exact walk_counts_contract F W base args ds ps hF hval hA hlt hsz

set_option maxHeartbeats 1000000 in
set_option maxRecDepth 100000 in
theorem walk_counts : Rows.FnWalkCountsSharedNodesOncePerOccurrenceToldSaid :=
  Claim7.holds_of_told_any 3 Tryf.f3 "fmt.Sprintf" [] [] _ _ _ walk_counts_wf rfl rfl rfl Tryf.laidOut Tryf.rowed rfl ⟨rfl, rfl, rfl, rfl, rfl, rfl, rfl⟩ rfl rfl walk_counts_tie walk_counts_fn Tryf.func3 walk_counts_rd
    walk_counts_inst walk_counts_wrap Tryf.stops.symm rfl Tryf.stopKnobs.symm Tryf.worded
    walk_counts_in walk_counts_un walk_counts_re walk_counts_nm (by as_aux_lemma => kernel_rfl) (by as_aux_lemma => kernel_rfl) (by as_aux_lemma => kernel_rfl) (by as_aux_lemma => kernel_rfl) (by as_aux_lemma => kernel_rfl) rfl (by as_aux_lemma => kernel_rfl) rfl rfl
    rfl rfl
    rfl Tryf.mainIs Tryf.looks walk_counts_fun (by decide) walk_counts_goes
    (OpenClaim.moreEntering_of Tryf.enters (by as_aux_lemma => kernel_rfl) Tryf.heard (by as_aux_lemma => kernel_rfl) (by as_aux_lemma => kernel_rfl) (by as_aux_lemma => kernel_rfl) (by as_aux_lemma => kernel_rfl) Tryf.plainKeys Tryf.liftsFinal Tryf.make)
    ⟨_, WideRow.started_initial, Tryf.quiet _⟩
    (fun os started _ H enc _ => walk_counts_lifted os started H enc)
    ⟨walk_counts_vl, walk_counts_vf⟩

end Go.Proofs.YtfdnbkdkikaadaaFmt
