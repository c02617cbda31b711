/-
  FnSequenceConcatenation returns true for every two lists of texts, and no argument turns. Conditions: none.
-/
import Derived.Test.YtbmeeoehphdniaaL2
namespace Go.Proofs.Ytbmeeoehphdniaa
open Go.ChangeShapes Go.WideShapes Go.ChangeAt Go.RowKit

theorem Try.own : ownKnob Try.prog.godebug = none := by kernel_rfl
theorem Try.laidOut : laidOutB Try.prog = true := by kernel_rfl
theorem Try.paramsL1 : Try.f3.params.toList = [36] := by kernel_rfl
theorem Try.paramsL2 : Try.f4.params.toList = [36, 36] := by kernel_rfl
theorem Try.resultsL1 : Try.f3.resultTypes = #[4] := by kernel_rfl
theorem Try.resultsL2 : Try.f4.resultTypes = #[4] := by kernel_rfl
theorem read_ss : Try.prog.readableRec 36 = true ∧ 36 < Try.prog.types.size := ⟨by kernel_rfl, of_decide_eq_true (by kernel_rfl)⟩

theorem trodAll_below {H : Type} {enc : TypeId × Value → H} {P : Program} (hl : laidOutB P = true) {W W' : World} (hb : Below W.heap.size W W') : ∀ (ts : List TypeId) (vs : List Value) (ds : List (DataW H)) (ps : List MemPlace),
    (∀ t ∈ ts, P.readableRec t = true ∧ t < P.types.size) → (∀ x ∈ ps, x.block < W.heap.size) →
    DataW.TrodAll enc P W 0 (fun _ => true) true ts vs ds ps → DataW.TrodAll enc P W' 0 (fun b => decide (b < W.heap.size)) true ts vs ds ps
  | [], [], [], _, _, _, h => h
  | t :: ts, v :: vs, d :: ds, ps, hr, hlt, h => by
    obtain ⟨p, q, h1, h2, rfl⟩ := h
    have ht := hr t (by simp)
    exact ⟨p, q, Below.trod hl ht.1 ht.2 h1 hb (fun x hx => hlt x (by simp [hx])), trodAll_below hl hb ts vs ds q (fun t h => hr t (by simp [h])) (fun x hx => hlt x (by simp [hx])) h2, rfl⟩
  | [], [], _ :: _, _, _, _, h => h.elim
  | [], _ :: _, _, _, _, _, h => h.elim
  | _ :: _, [], _, _, _, _, h => h.elim
  | _ :: _, _ :: _, [], _, _, _, h => h.elim

set_option maxRecDepth 100000 in
theorem sequence_concat_lifted (os : Os) (started : os.Started) (H : Type) (enc : TypeId × Value → H) :
    ReturnsInHanded {} Try.checked os 4 .any (Rows.fnSequenceConcatenationSpec.pre6 enc Try.prog Try.f4 Rows.fnSequenceConcatenationRow.domain false) (Rows.fnSequenceConcatenationSpec.post enc Try.prog Try.f4 false true false false) := by
  refine returnsInHanded_of_change (C := Try.checked) Try.own started (by kernel_rfl) Try.func4
    (ChangeSpec.witness6 (enc := enc) (C := Try.checked) false ⟨#[], #[.slice none 0 0, .slice none 0 0], []⟩ 8 (by kernel_rfl) (by kernel_rfl) (by kernel_rfl) (by kernel_rfl)) ?_
  intro W base args ds gs before hval0 hW hcnd _
  have hval : ∀ (j : Nat) t v, Try.f4.params[j]? = some t → args[j]? = some v → Value.okWide Try.prog W .any base t v := hval0
  have hW' := hW
  obtain ⟨p, q, hA0, hV, rfl, hfz, hnd⟩ := hW
  have hA : DataW.TrodAll enc Try.prog W 0 (fun _ => true) true Try.f4.params.toList args.toList ds p := hA0
  have hv1 : ∀ (j : Nat) t v, ([36, 36] : List TypeId)[j]? = some t → args[j]? = some v → Value.okWide Try.prog W .any base t v := fun j t v h1 h2 => hval j t v (by rw [← Array.getElem?_toList, Try.paramsL2]; exact h1) h2
  rw [Try.paramsL2] at hA
  obtain ⟨rfl, rfl⟩ := trodVars_none hV
  have hlt : ∀ x ∈ p, x.block < W.heap.size := fun x hx => hW'.lt x (by simpa using hx)
  have hAk := hA
  obtain ⟨v0, v1, d0, d1, p0, p1, rfl, rfl, rfl, h0, h1⟩ := trodAll_two hA
  obtain ⟨a1, c1, b1, o1, xs, rfl, hx⟩ := open_strs (hv1 0 36 v0 rfl rfl) h0
  obtain ⟨a2, c2, b2, o2, ys, rfl, hy⟩ := open_strs (hv1 1 36 v1 rfl rfl) h1
  have hcall : Calls Try.prog 4 #[.slice a1 xs.length c1, .slice a2 ys.length c2] W fun e w' => e = .returned (.bool true) ∧ Below W.heap.size W w' := by
    by_cases h : 65536 < xs.length ∨ 65536 < ys.length ∨ xs.length = 0 ∨ ys.length = 0
    · exact s2_no a1 a2 c1 c2 b1 b2 o1 o2 xs ys W hx hy h
    · exact s2_yes a1 a2 c1 c2 b1 b2 o1 o2 xs ys W hx hy (by omega) (by omega) (by omega) (by omega)
  refine hcall.mono fun e W' ⟨he, hb⟩ => ?_
  refine ⟨_, he, _, [], (p0 ++ p1) ++ [], [], (p0 ++ p1), [], hW', ?_, ?_, ?_, hb.frame _, fun h => by cases h⟩
  · have hres : Try.f4.resultTypes.toList = [4] := by rw [Try.resultsL2]
    show DataW.TrodAll enc Try.prog W' _ _ _ Try.f4.resultTypes.toList ((Value.bool true).resultList Try.f4.resultTypes.size) _ []
    have hrv : (Value.bool true).resultList Try.f4.resultTypes.size = [.bool true] := by rw [Try.resultsL2]; rfl
    rw [hres, hrv]
    exact trodAll_mk1 (shut_bool Try.underlying4 true)
  · show DataW.TrodAll enc Try.prog W' _ _ _ Try.f4.params.toList _ _ _
    rw [Try.paramsL2]
    exact trodAll_below Try.laidOut hb _ _ _ _ (fun t ht => by simp at ht; subst ht; exact read_ss) hlt hAk
  · rfl

set_option maxRecDepth 100000 in
theorem sequence_concat : Rows.FnSequenceConcatenationSaid :=
  OpenClaim.holds_of_wide 4 Try.f4 rfl rfl rfl rfl rfl rfl rfl ⟨rfl, rfl, rfl, rfl, rfl⟩ rfl rfl rfl rfl rfl (by kernel_rfl) Try.func4 (by kernel_rfl)
    (of_decide_eq_true (by kernel_rfl)) (by unfold Func.isWrapper; first | (rw [if_pos (by decide +kernel)]; kernel_rfl) | (rw [if_neg (by decide +kernel)]; exact ⟨rfl, rfl⟩))
    (fun os started H enc _ => sequence_concat_lifted os started H enc)

end Go.Proofs.Ytbmeeoehphdniaa
