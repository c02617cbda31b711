/-
  The walks of SliceNode.String over identifier leaves, in its four cases, and of the two functions that bound the slice laws' sizes. No condition but those in each statement.
-/
import Derived.Test.YtjpkoddghagdgaaFmtRStr
import Derived.StillTailTactics
namespace Go.Proofs.YtjpkoddghagdgaaFmtR
open Go.RowKit Go.Extern.Stop Go.Stop Go.Extern

@[go_sem] theorem meth_ident (a : Addr) (w : World) : (method 554 63 (.pointer (some a)) "String").run Tryf.prog w = .ok (138, .pointer (some a)) w := by kernel_rfl

set_option maxHeartbeats 400000 in
/-- IdentifierNode.String: its value. -/
theorem ident_str (s : ByteArray) (b : Nat) (w : World) (hc : w.cell? ⟨b, 11, none⟩ = some (.string s)) :
    Calls Tryf.prog 138 #[.pointer (some ⟨b, 0, none⟩)] w fun e w' => e = .returned (.string s) ∧ w = w' := by
  go_enter Tryf.func138, Tryf.ntmps138
  go_wp2
  go_ret
  exact ⟨rfl, rfl⟩
theorem ident_still (s : ByteArray) (b : Nat) (w : World) (hc : w.cell? ⟨b, 11, none⟩ = some (.string s)) :
    Calls Tryf.prog 138 #[.pointer (some ⟨b, 0, none⟩)] w fun e w' => e = .returned (.string s) ∧ w' = w :=
  (ident_str s b w hc).mono fun _ _ h => ⟨h.1, h.2.symm⟩

set_option maxHeartbeats 400000 in
theorem slice_nn (F : Interp) (s : ByteArray) (b nb : Nat) (w : World) (hF : F.told.answers w.tape) (hl : s.size < 2 ^ 58) (hs : w.cell? ⟨b, 11, none⟩ = some (.iface 63 (.pointer (some ⟨nb, 0, none⟩))))
    (h2 : w.cell? ⟨b, 12, none⟩ = some .nilIface) (h3 : w.cell? ⟨b, 13, none⟩ = some .nilIface) (hi : w.cell? ⟨nb, 11, none⟩ = some (.string s)) :
    Calls Tryf.prog 28 #[.pointer (some ⟨b, 0, none⟩)] w fun e w' => e = .returned (.string (bs (s.data.toList ++ [91, 58, 93]))) ∧ Below w.heap.size w w' := by
  have ht := told_text F (text_sl0 s.data.toList (by rw [size_list]; omega)) (by rw [List.length_append, size_list]; simp; omega)
  have HT := Lib.hid ht
  clear ht
  have hF' := answers_open hF
  go_enter Tryf.func28, Tryf.ntmps28
  go_wp2
  go_ret
  exact ⟨ret_str' HT.out, ((Below.refl _ w).alloc (Nat.le_refl _) _).drew⟩

set_option maxHeartbeats 400000 in
set_option maxRecDepth 10000 in
theorem slice_ny (F : Interp) (s t : ByteArray) (b nb tb : Nat) (w : World) (hF : F.told.answers w.tape) (hl : s.size < 2 ^ 58) (hlt : t.size < 2 ^ 58) (hs : w.cell? ⟨b, 11, none⟩ = some (.iface 63 (.pointer (some ⟨nb, 0, none⟩))))
    (h2 : w.cell? ⟨b, 12, none⟩ = some .nilIface) (h3 : w.cell? ⟨b, 13, none⟩ = some (.iface 63 (.pointer (some ⟨tb, 0, none⟩)))) (hi : w.cell? ⟨nb, 11, none⟩ = some (.string s)) (hti : w.cell? ⟨tb, 11, none⟩ = some (.string t)) :
    Calls Tryf.prog 28 #[.pointer (some ⟨b, 0, none⟩)] w fun e w' => e = .returned (.string (bs (s.data.toList ++ [91, 58] ++ t.data.toList ++ [93]))) ∧ Below w.heap.size w w' := by
  have ht := told_text F (text_sl1 s.data.toList t.data.toList (by rw [size_list]; omega) (by rw [size_list]; omega)) (by simp only [List.length_append, size_list]; simp; omega)
  have HT := Lib.hid ht
  clear ht
  have hF' := answers_open hF
  have e1 := ident_still s nb w.drew (by simpa using hi)
  have e2 := ident_still t tb w.drew (by simpa using hti)
  go_enter Tryf.func28, Tryf.ntmps28
  go_wp2
  refine wp_region_still_tail 12 (by kernel_rfl) (by kernel_rfl) ?_
  simp only [List.take_succ_cons, List.take_zero, List.drop_succ_cons, List.drop_zero]
  iterate 4 still_step
  still_call e1
  iterate 5 still_step
  still_call e2
  still_step
  refine wpStill_nil ?_
  change wpList _ _ _ _ _ w.drew
  go_wp2
  go_ret
  exact ⟨ret_str' HT.out, ((Below.refl _ w).alloc (Nat.le_refl _) _).drew.drew⟩

set_option maxHeartbeats 400000 in
set_option maxRecDepth 10000 in
theorem slice_yn (F : Interp) (s t : ByteArray) (b nb tb : Nat) (w : World) (hF : F.told.answers w.tape) (hl : s.size < 2 ^ 58) (hlt : t.size < 2 ^ 58) (hs : w.cell? ⟨b, 11, none⟩ = some (.iface 63 (.pointer (some ⟨nb, 0, none⟩))))
    (h2 : w.cell? ⟨b, 12, none⟩ = some (.iface 63 (.pointer (some ⟨tb, 0, none⟩)))) (h3 : w.cell? ⟨b, 13, none⟩ = some .nilIface) (hi : w.cell? ⟨nb, 11, none⟩ = some (.string s)) (hti : w.cell? ⟨tb, 11, none⟩ = some (.string t)) :
    Calls Tryf.prog 28 #[.pointer (some ⟨b, 0, none⟩)] w fun e w' => e = .returned (.string (bs (s.data.toList ++ [91] ++ t.data.toList ++ [58, 93]))) ∧ Below w.heap.size w w' := by
  have ht := told_text F (text_sl2 s.data.toList t.data.toList (by rw [size_list]; omega) (by rw [size_list]; omega)) (by simp only [List.length_append, size_list]; simp; omega)
  have HT := Lib.hid ht
  clear ht
  have hF' := answers_open hF
  have e1 := ident_still s nb w.drew (by simpa using hi)
  have e2 := ident_still t tb w.drew (by simpa using hti)
  go_enter Tryf.func28, Tryf.ntmps28
  go_wp2
  refine wp_region_still_tail 12 (by kernel_rfl) (by kernel_rfl) ?_
  simp only [List.take_succ_cons, List.take_zero, List.drop_succ_cons, List.drop_zero]
  iterate 4 still_step
  still_call e1
  iterate 5 still_step
  still_call e2
  still_step
  refine wpStill_nil ?_
  change wpList _ _ _ _ _ w.drew
  go_wp2
  go_ret
  exact ⟨ret_str' HT.out, ((Below.refl _ w).alloc (Nat.le_refl _) _).drew.drew⟩

set_option maxHeartbeats 400000 in
set_option maxRecDepth 10000 in
theorem slice_yy (F : Interp) (s t u : ByteArray) (b nb tb ub : Nat) (w : World) (hF : F.told.answers w.tape) (hl : s.size < 2 ^ 58) (hlt : t.size < 2 ^ 58) (hlu : u.size < 2 ^ 58) (hs : w.cell? ⟨b, 11, none⟩ = some (.iface 63 (.pointer (some ⟨nb, 0, none⟩))))
    (h2 : w.cell? ⟨b, 12, none⟩ = some (.iface 63 (.pointer (some ⟨tb, 0, none⟩)))) (h3 : w.cell? ⟨b, 13, none⟩ = some (.iface 63 (.pointer (some ⟨ub, 0, none⟩)))) (hi : w.cell? ⟨nb, 11, none⟩ = some (.string s)) (hti : w.cell? ⟨tb, 11, none⟩ = some (.string t)) (hui : w.cell? ⟨ub, 11, none⟩ = some (.string u)) :
    Calls Tryf.prog 28 #[.pointer (some ⟨b, 0, none⟩)] w fun e w' => e = .returned (.string (bs (s.data.toList ++ [91] ++ t.data.toList ++ [58] ++ u.data.toList ++ [93]))) ∧ Below w.heap.size w w' := by
  have ht := told_text F (text_sl3 s.data.toList t.data.toList u.data.toList (by rw [size_list]; omega) (by rw [size_list]; omega) (by rw [size_list]; omega)) (by simp only [List.length_append, size_list]; simp; omega)
  have HT := Lib.hid ht
  clear ht
  have hF' := answers_open hF
  have e1 := ident_still s nb w.drew (by simpa using hi)
  have e2 := ident_still t tb w.drew (by simpa using hti)
  have e3 := ident_still u ub w.drew (by simpa using hui)
  go_enter Tryf.func28, Tryf.ntmps28
  go_wp2
  refine wp_region_still_tail 18 (by kernel_rfl) (by kernel_rfl) ?_
  simp only [List.take_succ_cons, List.take_zero, List.drop_succ_cons, List.drop_zero]
  iterate 4 still_step
  still_call e1
  iterate 5 still_step
  still_call e2
  iterate 5 still_step
  still_call e3
  still_step
  refine wpStill_nil ?_
  change wpList _ _ _ _ _ w.drew
  go_wp2
  go_ret
  exact ⟨ret_str' HT.out, ((Below.refl _ w).alloc (Nat.le_refl _) _).drew.drew⟩

end Go.Proofs.YtjpkoddghagdgaaFmtR
