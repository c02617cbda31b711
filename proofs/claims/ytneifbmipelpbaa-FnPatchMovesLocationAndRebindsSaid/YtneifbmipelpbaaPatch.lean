/-
  FnPatchMovesLocationAndRebinds returns true for every six ints, and no argument turns. Conditions: none.
-/
import Derived.Test.YtneifbmipelpbaaWalkA
import Derived.ProofKit
import Derived.Carry
namespace Go.Proofs.Ytneifbmipelpbaa
open Go.ChangeShapes Go.WideShapes Go.ChangeAt Go.RowKit

theorem Try.own : ownKnob Try.prog.godebug = none := by kernel_rfl
theorem Try.laidOut : laidOutB Try.prog = true := by kernel_rfl
theorem Try.params3 : Try.f3.params.toList = [3, 3, 3, 3, 3, 3] := by kernel_rfl
theorem Try.results3 : Try.f3.resultTypes = #[4] := by kernel_rfl
theorem read_3 : Try.prog.readableRec 3 = true ∧ 3 < Try.prog.types.size := ⟨by kernel_rfl, of_decide_eq_true (by kernel_rfl)⟩

theorem trodAll_below {H : Type} {enc : TypeId × Value → H} {P : Program} (hl : laidOutB P = true) {W W' : World} (hb : Below W.heap.size W W') : ∀ (ts : List TypeId) (vs : List Value) (ds : List (DataW H)) (ps : List MemPlace),
    (∀ t ∈ ts, P.readableRec t = true ∧ t < P.types.size) → (∀ x ∈ ps, x.block < W.heap.size) →
    DataW.TrodAll enc P W 0 (fun _ => true) true ts vs ds ps → DataW.TrodAll enc P W' 0 (fun b => decide (b < W.heap.size)) true ts vs ds ps
  | [], [], [], _, _, _, h => h
  | t :: ts, v :: vs, d :: ds, ps, hr, hlt, h => by
    obtain ⟨p, q, h1, h2, rfl⟩ := h
    have ht := hr t (by simp)
    exact ⟨p, q, Below.trod hl ht.1 ht.2 h1 hb (fun x hx => hlt x (by simp [hx])), trodAll_below hl hb ts vs ds q (fun t h => hr t (by simp [h])) (fun x hx => hlt x (by simp [hx])) h2, rfl⟩
  | [], [], _ :: _, _, _, _, h => h.elim
  | [], _ :: _, _, _, _, _, h => h.elim
  | _ :: _, [], _, _, _, _, h => h.elim
  | _ :: _, _ :: _, [], _, _, _, h => h.elim

theorem six {H : Type} {enc : TypeId × Value → H} {P : Program} {W : World} {base : Nat} {sp : Nat → Bool} {held : Bool} {t1 t2 t3 t4 t5 t6 : TypeId} {vs : List Value} {ds : List (DataW H)} {ps : List MemPlace}
    (h : DataW.TrodAll enc P W base sp held [t1, t2, t3, t4, t5, t6] vs ds ps) : ∃ v1 v2 v3 v4 v5 v6 d1 d2 d3 d4 d5 d6 p1 p2 p3 p4 p5 p6, vs = [v1, v2, v3, v4, v5, v6] ∧ ds = [d1, d2, d3, d4, d5, d6] ∧
      DataW.Trod enc P W base sp held t1 v1 d1 p1 ∧ DataW.Trod enc P W base sp held t2 v2 d2 p2 ∧ DataW.Trod enc P W base sp held t3 v3 d3 p3 ∧ DataW.Trod enc P W base sp held t4 v4 d4 p4 ∧ DataW.Trod enc P W base sp held t5 v5 d5 p5 ∧ DataW.Trod enc P W base sp held t6 v6 d6 p6 := by
  obtain ⟨v1, vs1, d1, ds1, p1, q1, rfl, rfl, rfl, h1, h⟩ := trodAll_cons h
  obtain ⟨v2, vs2, d2, ds2, p2, q2, rfl, rfl, rfl, h2, h⟩ := trodAll_cons h
  obtain ⟨v3, vs3, d3, ds3, p3, q3, rfl, rfl, rfl, h3, h⟩ := trodAll_cons h
  obtain ⟨v4, vs4, d4, ds4, p4, q4, rfl, rfl, rfl, h4, h⟩ := trodAll_cons h
  obtain ⟨v5, vs5, d5, ds5, p5, q5, rfl, rfl, rfl, h5, h⟩ := trodAll_cons h
  obtain ⟨v6, vs6, d6, ds6, p6, q6, rfl, rfl, rfl, h6, h⟩ := trodAll_cons h
  obtain ⟨rfl, rfl, rfl⟩ := trodAll_nil h
  exact ⟨_, _, _, _, _, _, _, _, _, _, _, _, _, _, _, _, _, _, rfl, rfl, h1, h2, h3, h4, h5, h6⟩

set_option maxRecDepth 100000 in
theorem patch_lifted (os : Os) (started : os.Started) (H : Type) (enc : TypeId × Value → H) :
    ReturnsInHanded {} Try.checked os 3 .any (Rows.fnPatchMovesLocationAndRebindsSpec.pre6 enc Try.prog Try.f3 Rows.fnPatchMovesLocationAndRebindsRow.domain false) (Rows.fnPatchMovesLocationAndRebindsSpec.post enc Try.prog Try.f3 false true false false) := by
  refine returnsInHanded_of_change (C := Try.checked) Try.own started (by kernel_rfl) Try.func3
    (ChangeSpec.witness6 (enc := enc) (C := Try.checked) false ⟨#[], #[.int .i64 0, .int .i64 0, .int .i64 0, .int .i64 0, .int .i64 0, .int .i64 0], []⟩ 8 (by kernel_rfl) (by kernel_rfl) (by kernel_rfl) (by kernel_rfl)) ?_
  intro W base args ds gs before hval0 hW hcnd _
  have hval : ∀ (j : Nat) t v, Try.f3.params[j]? = some t → args[j]? = some v → Value.okWide Try.prog W .any base t v := hval0
  have hW' := hW
  obtain ⟨p, q, hA0, hV, rfl, hfz, hnd⟩ := hW
  have hA : DataW.TrodAll enc Try.prog W 0 (fun _ => true) true Try.f3.params.toList args.toList ds p := hA0
  rw [Try.params3] at hA
  obtain ⟨rfl, rfl⟩ := trodVars_none hV
  have hlt : ∀ x ∈ p, x.block < W.heap.size := fun x hx => hW'.lt x (by simpa using hx)
  obtain ⟨v1, v2, v3, v4, v5, v6, d1, d2, d3, d4, d5, d6, p1, p2, p3, p4, p5, p6, ha, rfl, k1, k2, k3, k4, k5, k6⟩ := six hA
  obtain ⟨args⟩ := args
  simp only at ha
  subst ha
  have hj : ∀ (j : Nat) v, ([v1, v2, v3, v4, v5, v6] : List Value)[j]? = some v → j < 6 → Value.okWide Try.prog W .any base 3 v := fun j v hv hlt6 => hval j 3 v (by
    rw [← Array.getElem?_toList, Try.params3]
    match j, hlt6 with
    | 0, _ => rfl
    | 1, _ => rfl
    | 2, _ => rfl
    | 3, _ => rfl
    | 4, _ => rfl
    | 5, _ => rfl) (by simpa using hv)
  have hAk := hA
  obtain ⟨x1, rfl, rfl, rfl, w1⟩ := open_int Try.underlying3 (hj 0 _ rfl (by omega)) k1
  obtain ⟨x2, rfl, rfl, rfl, w2⟩ := open_int Try.underlying3 (hj 1 _ rfl (by omega)) k2
  obtain ⟨x3, rfl, rfl, rfl, w3⟩ := open_int Try.underlying3 (hj 2 _ rfl (by omega)) k3
  obtain ⟨x4, rfl, rfl, rfl, w4⟩ := open_int Try.underlying3 (hj 3 _ rfl (by omega)) k4
  obtain ⟨x5, rfl, rfl, rfl, w5⟩ := open_int Try.underlying3 (hj 4 _ rfl (by omega)) k5
  obtain ⟨x6, rfl, rfl, rfl, w6⟩ := open_int Try.underlying3 (hj 5 _ rfl (by omega)) k6
  refine (patch_walk x1 x2 x3 x4 x5 x6 W).mono fun e W' ⟨he, hb⟩ => ?_
  refine ⟨_, he, _, [], p ++ [], [], p, [], hW', ?_, ?_, ?_, hb.frame _, fun h => by cases h⟩
  · have hres : Try.f3.resultTypes.toList = [4] := by rw [Try.results3]
    show DataW.TrodAll enc Try.prog W' _ _ _ Try.f3.resultTypes.toList ((Value.bool true).resultList Try.f3.resultTypes.size) _ []
    have hrv : (Value.bool true).resultList Try.f3.resultTypes.size = [.bool true] := by rw [Try.results3]; rfl
    rw [hres, hrv]
    exact trodAll_mk1 (shut_bool Try.underlying4 true)
  · show DataW.TrodAll enc Try.prog W' _ _ _ Try.f3.params.toList _ _ p
    rw [Try.params3]
    exact trodAll_below Try.laidOut hb _ _ _ _ (fun t ht => by simp at ht; subst ht; exact read_3) hlt hAk
  · rfl

set_option maxRecDepth 100000 in
theorem patch_moves : Rows.FnPatchMovesLocationAndRebindsSaid :=
  OpenClaim.holds_of_wide 3 Try.f3 rfl rfl rfl rfl rfl rfl rfl ⟨rfl, rfl, rfl, rfl, rfl⟩ rfl rfl rfl rfl rfl (by kernel_rfl) Try.func3 (by kernel_rfl)
    (of_decide_eq_true (by kernel_rfl)) (by unfold Func.isWrapper; first | (rw [if_pos (by decide +kernel)]; kernel_rfl) | (rw [if_neg (by decide +kernel)]; exact ⟨rfl, rfl⟩))
    (fun os started H enc _ => patch_lifted os started H enc)

end Go.Proofs.Ytneifbmipelpbaa
