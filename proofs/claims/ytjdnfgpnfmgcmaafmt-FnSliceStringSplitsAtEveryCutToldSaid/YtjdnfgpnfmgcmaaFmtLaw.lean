/-
  The frame of every law of this seat: from 'the call returns true and nothing that was there has turned' to the told form. No condition.
-/
import Derived.Test.YtjdnfgpnfmgcmaaFmtFacts
import Derived.WalkKit
import Derived.WalkSpells
import Derived.Handy
import Derived.Lib.Hide
import Derived.Stop.Told
import Derived.Stop.JoinedTold
import Derived.ProofKit
import Derived.Carry
import Derived.Stop.JoinedAt
import Derived.Stop.JoinedTold
import Derived.SizedLaws
import Derived.SevenToldRow
import Derived.SliceStrings
namespace Go.Proofs.YtjdnfgpnfmgcmaaFmt
open Go.ChangeShapes Go.WideShapes Go.ChangeAt Go.RowKit Go.Kit
open Go.ChangeMaps (open_string shut_string)
open Go.Extern.Stop Go.Stop Go.Extern

theorem trodAll_below {H : Type} {enc : TypeId × Value → H} {P : Program} (hl : laidOutB P = true) {W W' : World} (hb : Below W.heap.size W W') : ∀ (ts : List TypeId) (vs : List Value) (ds : List (DataW H)) (ps : List MemPlace),
    (∀ t ∈ ts, P.readableRec t = true ∧ t < P.types.size) → (∀ x ∈ ps, x.block < W.heap.size) →
    DataW.TrodAll enc P W 0 (fun _ => true) true ts vs ds ps → DataW.TrodAll enc P W' 0 (fun b => decide (b < W.heap.size)) true ts vs ds ps
  | [], [], [], _, _, _, h => h
  | t :: ts, v :: vs, d :: ds, ps, hr, hlt, h => by
    obtain ⟨p, q, h1, h2, rfl⟩ := h
    have ht := hr t (by simp)
    exact ⟨p, q, Below.trod hl ht.1 ht.2 h1 hb (fun x hx => hlt x (by simp [hx])), trodAll_below hl hb ts vs ds q (fun t h => hr t (by simp [h])) (fun x hx => hlt x (by simp [hx])) h2, rfl⟩
  | [], [], _ :: _, _, _, _, h => h.elim
  | [], _ :: _, _, _, _, _, h => h.elim
  | _ :: _, [], _, _, _, _, h => h.elim
  | _ :: _, _ :: _, [], _, _, _, h => h.elim

theorem trodAll_len {H : Type} {enc : TypeId × Value → H} {P : Program} {W : World} {base : Nat} {sp : Nat → Bool} {held : Bool} : ∀ (ts : List TypeId) (vs : List Value) (ds : List (DataW H)) (ps : List MemPlace),
    DataW.TrodAll enc P W base sp held ts vs ds ps → ds.length = ts.length
  | [], [], [], _, _ => rfl
  | t :: ts, v :: vs, d :: ds, ps, h => by
    obtain ⟨p, q, h1, h2, rfl⟩ := h
    simp [trodAll_len ts vs ds q h2]
  | [], [], _ :: _, _, h => h.elim
  | [], _ :: _, _, _, h => h.elim
  | _ :: _, [], _, _, h => h.elim
  | _ :: _, _ :: _, [], _, h => h.elim

set_option maxRecDepth 100000 in
/-- THE FRAME. -/
theorem law_lifted {s : ChangeSpec} (f : FuncId) (fn : Func) (ts : List TypeId) (hts : fn.params.toList = ts) (hrt : fn.resultTypes = #[4]) (hv : s.vars = [])
    (hs : ∀ (H : Type) (ds : List (DataW H)), ds.length = ts.length → s.fn H ds = { results := [.lit (.bool true)], args := ds })
    (hread : ∀ t ∈ ts, Tryf.prog.readableRec t = true ∧ t < Tryf.prog.types.size)
    (hinit : Tryf.checked.prog.inits.idxOf? f = none) (hfn : Tryf.checked.prog.funcs[f]? = some fn) (os : Os) (started : os.Started) (H : Type) (enc : TypeId × Value → H)
    (witness : ∀ F : Stop.Interp, ∃ (w : World) (tape : Tape) (i : Input), w.os = os ∧ (w.forCall tape i).Shaped Tryf.checked.prog ∧ i.vars = [] ∧ Input.okWide Tryf.checked.prog (w.forCall tape i) .any w.heap.size f i ∧
      (OpenSpec.ofChange s).preRow enc Tryf.checked.prog fn [] false [] (w.forCall tape i).memory i.args ∧ ({} : Assume).holds Tryf.checked.prog (lone (Frame.enter Tryf.checked.prog f i.args .normal) [] (w.forCall tape i)) ∧ F.answers tape)
    (contract : ∀ (F : Stop.Interp) (W : World) (base : Nat) (args : Array Value) (ds : List (DataW H)) (ps : List MemPlace), F.told.answers W.tape →
      (∀ (j : Nat) t v, ts[j]? = some t → args[j]? = some v → Value.okWide Tryf.prog W .any base t v) →
      DataW.TrodAll enc Tryf.prog W 0 (fun _ => true) true ts args.toList ds ps → (∀ x ∈ ps, x.block < W.heap.size) →
      (DataW.weightsEach Tryf.prog ts ds).all (· ≤ reachBytes) = true →
      Calls Tryf.prog f args W fun e W' => e = .returned (.bool true) ∧ Below W.heap.size W W') :
    ReturnsInTold none {} Tryf.checked os f .any Input.okWide ((OpenSpec.ofChange s).preRow enc Tryf.checked.prog fn [] false []) (fun F => ((OpenSpec.ofChange s).at F).post enc Tryf.checked.prog fn false true false false) (aloneAtReturn Tryf.checked.prog) nothingAlways := by
  refine returnsInTold_of_row (C := Tryf.checked) (s := OpenSpec.ofChange s) Tryf.enters Tryf.own started hinit hfn witness ?_
  intro F W base args ds gs before _ hF hval0 hW _ _ hsz _ _
  have hval : ∀ (j : Nat) t v, fn.params[j]? = some t → args[j]? = some v → Value.okWide Tryf.prog W .any base t v := hval0
  clear hval0
  have hW' := hW
  obtain ⟨p, q, hA, hV, rfl, _, _⟩ := hW
  have hV' : DataW.TrodVars enc Tryf.checked.prog W (fun _ => true) [] gs q := by rw [← hv]; exact hV
  obtain ⟨rfl, rfl⟩ := trodVars_none hV'
  rw [hts] at hA
  have hlen := trodAll_len _ _ _ _ hA
  have hlt : ∀ x ∈ p, x.block < W.heap.size := fun x hx => hW'.lt x (by simpa using hx)
  have hsz' : (DataW.weightsEach Tryf.prog ts ds).all (· ≤ reachBytes) = true := by
    have hvt : (OpenSpec.ofChange s).bare.plain.varTypes Tryf.checked.prog = [] := by
      show (List.filterMap _ s.vars) = []
      rw [hv]; rfl
    rw [hts, hvt, List.append_nil, List.append_nil] at hsz
    exact hsz
  refine (contract F W base args ds p hF (fun j t v ht hv' => hval j t v (by rw [← Array.getElem?_toList, hts]; exact ht) hv') hA hlt hsz').mono fun e W' ⟨he, hb⟩ => ?_
  refine ⟨_, he, ds, [], p ++ [], [], p, [], hW', ?_, ?_, ?_, hb.frame _, fun h => by cases h⟩
  · have e1 : (((OpenSpec.ofChange s).at F.told).fn H (ds ++ [])).results = [.lit (.bool true)] := by
      show (s.fn H (ds ++ [])).results = _
      rw [List.append_nil, hs H ds hlen]
    rw [e1]
    have hres : fn.resultTypes.toList = [4] := by rw [hrt]
    have hrv : (Value.bool true).resultList fn.resultTypes.size = [.bool true] := by rw [hrt]; rfl
    rw [hres, hrv]
    exact trodAll_mk1 (shut_bool Tryf.underlying4 true)
  · have e2 : (((OpenSpec.ofChange s).at F.told).fn H (ds ++ [])).args = ds := by
      show (s.fn H (ds ++ [])).args = _
      rw [List.append_nil, hs H ds hlen]
    rw [e2, hts]
    exact trodAll_below Tryf.laidOut hb ts _ _ _ hread hlt hA
  · show DataW.TrodVars enc Tryf.checked.prog W' _ s.vars (s.fn H (ds ++ [])).vars []
    rw [List.append_nil, hs H ds hlen, hv]
    rfl

end Go.Proofs.YtjdnfgpnfmgcmaaFmt
