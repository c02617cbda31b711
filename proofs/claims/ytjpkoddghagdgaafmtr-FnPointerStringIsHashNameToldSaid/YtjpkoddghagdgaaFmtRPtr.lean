/-
  FnPointerStringIsHashName returns true for every name, and no argument turns. Conditions: none.
-/
import Derived.Test.YtjpkoddghagdgaaFmtRLaw
namespace Go.Proofs.YtjpkoddghagdgaaFmtR
open Go.RowKit Go.Extern.Stop Go.Stop Go.Extern
open Go.ChangeShapes Go.WideShapes Go.ChangeAt Go.Kit
open Go.ChangeMaps (open_string shut_string)

theorem ret_str {a b : ByteArray} (h : a = b) : Ending.returned (.string a) = .returned (.string b) := by rw [h]
theorem ret_bool {a b : Bool} (h : a = b) : Ending.returned (.bool a) = .returned (.bool b) := by rw [h]
theorem sz (s : ByteArray) : s.data.toList.length = s.size := rfl
theorem hash_app (nm : ByteArray) : ({ data := #[35] } ++ nm : ByteArray) = bs (35 :: nm.data.toList) := by
  apply ByteArray.ext
  rw [ByteArray.data_append]
  simp [bs]

set_option maxHeartbeats 400000 in
theorem ptr_str (F : Interp) (nm : ByteArray) (b : Nat) (w : World) (hF : F.told.answers w.tape) (hl : nm.size < 2 ^ 61) (hc : w.cell? ⟨b, 11, none⟩ = some (.string nm)) :
    Calls Tryf.prog 13 #[.pointer (some ⟨b, 0, none⟩)] w fun e w' => e = .returned (.string (bs (35 :: nm.data.toList))) ∧ Below w.heap.size w w' := by
  have ht := told_text F (text_hash nm.data.toList (by rw [sz]; omega)) (by rw [List.length_cons, sz]; omega)
  have HT := Lib.hid ht
  clear ht
  have hF' := answers_open hF
  go_enter Tryf.func13, Tryf.ntmps13
  go_wp2
  go_ret
  exact ⟨ret_str HT.out, ((Below.refl _ w).alloc (Nat.le_refl _) _).drew⟩

set_option maxHeartbeats 400000 in
theorem zz12_yes (s : ByteArray) (w : World) (h : s.size ≤ 1048576) : Calls Tryf.prog 12 #[.string s] w fun e w' => e = .returned (.bool true) ∧ w = w' := by
  go_enter Tryf.func12, Tryf.ntmps12
  go_wp2
  go_ret
  exact ⟨rfl, rfl⟩
set_option maxHeartbeats 400000 in
theorem zz12_no (s : ByteArray) (w : World) (h : 1048576 < s.size) (_ : s.size ≤ 140737488355328) : Calls Tryf.prog 12 #[.string s] w fun e w' => e = .returned (.bool false) ∧ w = w' := by
  go_enter Tryf.func12, Tryf.ntmps12
  go_wp2
  go_ret
  exact ⟨rfl, rfl⟩

set_option maxHeartbeats 400000 in
theorem p1_yes (F : Interp) (nm : ByteArray) (w : World) (hF : F.told.answers w.tape) (hn : nm.size ≤ 1048576) :
    Calls Tryf.prog 3 #[.string nm] w fun e w' => e = .returned (.bool true) ∧ Below w.heap.size w w' := by
  have he := Lib.hid (hash_app nm)
  go_enter Tryf.func3, Tryf.ntmps3
  go_wp2_with (first | (go_at_call 12; refine (zz12_yes _ _ hn).mono ?_; rintro e w' ⟨rfl, rfl⟩) | (go_at_call 13; refine (ptr_str F nm _ _ (by exact hF) (by omega) (by simp [go_sem])).mono ?_; rintro e w1 ⟨rfl, hb1⟩))
  go_ret
  refine ⟨ret_bool ?_, ((Below.refl _ w).alloc (Nat.le_refl _) _).trans (hb1.mono (by simp))⟩
  show ((bs (35 :: nm.data.toList)).toList == ({ data := #[35] } ++ nm : ByteArray).toList) = true
  rw [he.out]
  simp
set_option maxHeartbeats 400000 in
theorem p1_no (nm : ByteArray) (w : World) (hn : 1048576 < nm.size) (hn2 : nm.size ≤ 140737488355328) :
    Calls Tryf.prog 3 #[.string nm] w fun e w' => e = .returned (.bool true) ∧ Below w.heap.size w w' := by
  go_enter Tryf.func3, Tryf.ntmps3
  go_wp2_with (go_at_call 12; refine (zz12_no _ _ hn hn2).mono ?_; rintro e w' ⟨rfl, rfl⟩)
  go_ret
  exact ⟨rfl, Below.refl _ _⟩

theorem Tryf.read9 : ∀ t ∈ [9], Tryf.prog.readableRec t = true ∧ t < Tryf.prog.types.size := by
  intro t ht
  rw [List.mem_singleton] at ht
  subst ht
  exact ⟨by kernel_rfl, of_decide_eq_true (by kernel_rfl)⟩

set_option maxRecDepth 100000 in
theorem p1_lifted (os : Os) (started : os.Started) (H : Type) (enc : TypeId × Value → H) :
    ReturnsInTold none {} Tryf.checked os 3 .any Input.okWide ((OpenSpec.ofChange Rows.fnPointerStringIsHashNameSpec).preRow enc Tryf.checked.prog Tryf.f3 [] false []) (fun F => ((OpenSpec.ofChange Rows.fnPointerStringIsHashNameSpec).at F).post enc Tryf.checked.prog Tryf.f3 false true false false) (aloneAtReturn Tryf.checked.prog) nothingAlways := by
  refine law_lifted 3 Tryf.f3 [9] (by kernel_rfl) (by kernel_rfl) rfl ?_ Tryf.read9 (by kernel_rfl) Tryf.func3 os started H enc
    (OpenSpec.witness_stopped (enc := enc) (C := Tryf.checked) false ⟨#[], #[.string ⟨#[]⟩], []⟩ 8 (by kernel_rfl) (by kernel_rfl) (by kernel_rfl) (by kernel_rfl)) ?_
  · intro H ds hd
    match ds, hd with
    | [d], _ => rfl
  · intro F W base args ds ps hF hval hA _ hsz
    obtain ⟨v0, d0, rfl, rfl, h0⟩ := trodAll_one hA
    obtain ⟨nm, rfl, rfl, rfl, wnm⟩ := open_string Tryf.underlying9 (hval 0 9 v0 rfl rfl) h0
    have hlen : nm.data.toList.length ≤ reachBytes := sized_string hsz (j := 0) (t := 9) rfl rfl
    have hr47 := reachBytes_lt
    rw [sz] at hlen
    by_cases hn : nm.size ≤ 1048576
    · exact p1_yes F nm W hF hn
    · exact p1_no nm W (by omega) (by omega)

set_option maxHeartbeats 4000000 in
set_option maxRecDepth 100000 in
theorem pointer_is_hash_name : Rows.FnPointerStringIsHashNameToldSaid :=
  Claim7.holds_of_told_any 3 Tryf.f3 "fmt.Sprintf" [] [] _ _ _ (by as_aux_lemma => kernel_rfl) rfl rfl rfl Tryf.laidOut Tryf.rowed rfl ⟨rfl, rfl, rfl, rfl, rfl, rfl, rfl⟩ rfl rfl (by as_aux_lemma => kernel_rfl) (by as_aux_lemma => kernel_rfl) Tryf.func3 (by as_aux_lemma => kernel_rfl)
    (of_decide_eq_true (by as_aux_lemma => kernel_rfl)) (of_decide_eq_true (by as_aux_lemma => kernel_rfl)) Tryf.stops.symm rfl Tryf.stopKnobs.symm (by as_aux_lemma => kernel_rfl)
    (by as_aux_lemma => kernel_rfl) (by as_aux_lemma => kernel_rfl) (by as_aux_lemma => kernel_rfl) (by as_aux_lemma => kernel_rfl) (by as_aux_lemma => kernel_rfl) (by as_aux_lemma => kernel_rfl) (by as_aux_lemma => kernel_rfl) (by as_aux_lemma => kernel_rfl) (by as_aux_lemma => kernel_rfl) rfl (by as_aux_lemma => kernel_rfl) rfl rfl
    rfl rfl
    rfl (by as_aux_lemma => kernel_rfl) (by as_aux_lemma => kernel_rfl) (by as_aux_lemma => kernel_rfl) (by decide) (by as_aux_lemma => kernel_rfl)
    (OpenClaim.moreEntering_of (by as_aux_lemma => kernel_rfl) (by as_aux_lemma => kernel_rfl) (by as_aux_lemma => kernel_rfl) (by as_aux_lemma => kernel_rfl) (by as_aux_lemma => kernel_rfl) (by as_aux_lemma => kernel_rfl) (by as_aux_lemma => kernel_rfl) (by as_aux_lemma => kernel_rfl) (by as_aux_lemma => kernel_rfl) (by as_aux_lemma => kernel_rfl))
    ⟨_, WideRow.started_initial, Tryf.quiet _⟩
    (fun os started _ H enc _ => p1_lifted os started H enc)
    ⟨by as_aux_lemma => kernel_rfl, by as_aux_lemma => kernel_rfl⟩

end Go.Proofs.YtjpkoddghagdgaaFmtR
