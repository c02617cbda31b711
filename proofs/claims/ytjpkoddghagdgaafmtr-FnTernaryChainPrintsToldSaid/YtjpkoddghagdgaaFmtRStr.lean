/-
  The walks of the short String methods and of the bounds' functions. No condition but those in each statement.
-/
import Derived.Test.YtjpkoddghagdgaaFmtRBase
import Derived.Outline
namespace Go.Proofs.YtjpkoddghagdgaaFmtR
open Go.RowKit Go.Extern.Stop Go.Stop Go.Extern

theorem ret_str' {a b : ByteArray} (h : a = b) : Ending.returned (.string a) = .returned (.string b) := by rw [h]
theorem ret_bool' {a b : Bool} (h : a = b) : Ending.returned (.bool a) = .returned (.bool b) := by rw [h]
theorem size_list (s : ByteArray) : s.data.toList.length = s.size := rfl

set_option maxHeartbeats 400000 in
/-- PointerNode.String: '#' and the name. -/
theorem pointer_str (F : Interp) (nm : ByteArray) (b : Nat) (w : World) (hF : F.told.answers w.tape) (hl : nm.size < 2 ^ 61) (hc : w.cell? ⟨b, 11, none⟩ = some (.string nm)) :
    Calls Tryf.prog 13 #[.pointer (some ⟨b, 0, none⟩)] w fun e w' => e = .returned (.string (bs (35 :: nm.data.toList))) ∧ Below w.heap.size w w' := by
  have ht := told_text F (text_hash nm.data.toList (by rw [size_list]; omega)) (by rw [List.length_cons, size_list]; omega)
  have HT := Lib.hid ht
  clear ht
  have hF' := answers_open hF
  go_enter Tryf.func13, Tryf.ntmps13
  go_wp2
  go_ret
  exact ⟨ret_str' HT.out, ((Below.refl _ w).alloc (Nat.le_refl _) _).drew⟩

set_option maxHeartbeats 400000 in
/-- StringNode.String: the quoted text. -/
theorem string_str (F : Interp) (nm : ByteArray) (b : Nat) (w : World) (hF : F.told.answers w.tape) (hl : nm.size < 2 ^ 58) (hc : w.cell? ⟨b, 11, none⟩ = some (.string nm)) :
    Calls Tryf.prog 17 #[.pointer (some ⟨b, 0, none⟩)] w fun e w' => e = .returned (.string (bs (FmtText.quote false nm.data.toList))) ∧ Below w.heap.size w w' := by
  have hq := FmtText.quote_length_le nm.data.toList
  have ht := told_text F (text_q nm.data.toList (by rw [size_list]; omega)) (by rw [size_list] at hq; omega)
  have HT := Lib.hid ht
  clear ht hq
  have hF' := answers_open hF
  go_enter Tryf.func17, Tryf.ntmps17
  go_wp2
  go_ret
  exact ⟨ret_str' HT.out, ((Below.refl _ w).alloc (Nat.le_refl _) _).drew⟩

set_option maxHeartbeats 400000 in
theorem zz14_yes (a b : ByteArray) (w : World) (h : a.size + b.size ≤ 1048576) : Calls Tryf.prog 14 #[.string a, .string b] w fun e w' => e = .returned (.bool true) ∧ w = w' := by
  have h1 : a.size ≤ 1048576 := by omega
  have h2 : b.size ≤ 1048576 := by omega
  go_enter Tryf.func14, Tryf.ntmps14
  go_wp2
  go_ret
  exact ⟨rfl, rfl⟩
set_option maxHeartbeats 400000 in
theorem zz14_no (a b : ByteArray) (w : World) (h : 1048576 < a.size + b.size) (_ : a.size ≤ 140737488355328) (_ : b.size ≤ 140737488355328) : Calls Tryf.prog 14 #[.string a, .string b] w fun e w' => e = .returned (.bool false) ∧ w = w' := by
  go_enter Tryf.func14, Tryf.ntmps14
  go_wp2
  all_goals
    go_ret
    exact ⟨rfl, rfl⟩

set_option maxHeartbeats 400000 in
theorem zz15_yes (s : ByteArray) (w : World) (h : s.size ≤ 1048576) : Calls Tryf.prog 15 #[.string s] w fun e w' => e = .returned (.bool true) ∧ w = w' := by
  go_enter Tryf.func15, Tryf.ntmps15
  go_wp2
  go_ret
  exact ⟨rfl, rfl⟩
set_option maxHeartbeats 400000 in
theorem zz15_no (s : ByteArray) (w : World) (h : 1048576 < s.size) (_ : s.size ≤ 140737488355328) : Calls Tryf.prog 15 #[.string s] w fun e w' => e = .returned (.bool false) ∧ w = w' := by
  go_enter Tryf.func15, Tryf.ntmps15
  go_wp2
  go_ret
  exact ⟨rfl, rfl⟩
set_option maxHeartbeats 400000 in
theorem zz32_yes (s : ByteArray) (w : World) (h : s.size ≤ 1048576) : Calls Tryf.prog 32 #[.string s] w fun e w' => e = .returned (.bool true) ∧ w = w' := by
  go_enter Tryf.func32, Tryf.ntmps32
  go_wp2
  go_ret
  exact ⟨rfl, rfl⟩
set_option maxHeartbeats 400000 in
theorem zz32_no (s : ByteArray) (w : World) (h : 1048576 < s.size) (_ : s.size ≤ 140737488355328) : Calls Tryf.prog 32 #[.string s] w fun e w' => e = .returned (.bool false) ∧ w = w' := by
  go_enter Tryf.func32, Tryf.ntmps32
  go_wp2
  go_ret
  exact ⟨rfl, rfl⟩

end Go.Proofs.YtjpkoddghagdgaaFmtR
