/-
  runtime.Slice (str), one path of its clamps each. No condition but those in each statement.
-/
import Derived.Test.YtjdnfgpnfmgcmaaFmtSl
namespace Go.Proofs.YtjdnfgpnfmgcmaaFmt
open Go.RowKit

set_option maxRecDepth 100000 in
set_option maxHeartbeats 8000000 in
theorem str_p1 (s : ByteArray) (n : Nat) (hn : s.size = n) (a b : Nat) (w : World) (_ : n ≤ 1048576) (_ : a ≤ b) (_ : b ≤ n) :
    Calls Tryf.prog 10 #[.iface 9 (.string s), .iface 3 (.int .i64 a), .iface 3 (.int .i64 b)] w fun e w' => e = .returned (.iface 9 (.string (s.extract a b))) ∧ Below w.heap.size w w' := by
  subst hn
  go_enter Tryf.func10, Tryf.ntmps10
  go_wp2_with fail
  rw [ln_str _ s _ (by simp [go_sem])]
  go_wp2_with fail
  refine (toInt _ _).mono ?_
  rintro e w' ⟨rfl, rfl⟩
  go_wp2_with fail
  refine (toInt _ _).mono ?_
  rintro e w' ⟨rfl, rfl⟩
  go_wp2_with fail
  rw [sl_str _ _ _ s _ (by simp [go_sem]) (by omega) (by omega) (by omega)]
  go_wp2_with fail
  rw [if_str _ _ _ (by simp [go_sem]; rfl)]
  go_wp2_with fail
  go_ret
  refine ⟨?_, ?_⟩
  · simp
  · repeat' first
      | exact Below.refl _ _
      | refine Below.alloc ?_ (by simp <;> omega) _

set_option maxRecDepth 100000 in
set_option maxHeartbeats 8000000 in
theorem str_p2 (s : ByteArray) (n : Nat) (hn : s.size = n) (a : Nat) (b : Int) (w : World) (_ : n ≤ 1048576) (_ : a ≤ n) (_ : (n : Int) < b) (_ : b ≤ 9223372036854775807) :
    Calls Tryf.prog 10 #[.iface 9 (.string s), .iface 3 (.int .i64 a), .iface 3 (.int .i64 b)] w fun e w' => e = .returned (.iface 9 (.string (s.extract a n))) ∧ Below w.heap.size w w' := by
  subst hn
  have g1 : ¬ b < 0 := by omega
  go_enter Tryf.func10, Tryf.ntmps10
  go_wp2_with fail
  rw [ln_str _ s _ (by simp [go_sem])]
  go_wp2_with fail
  refine (toInt _ _).mono ?_
  rintro e w' ⟨rfl, rfl⟩
  go_wp2_with fail
  refine (toInt _ _).mono ?_
  rintro e w' ⟨rfl, rfl⟩
  go_wp2_with fail
  rw [sl_str _ _ _ s _ (by simp [go_sem]) (by omega) (by omega) (by omega)]
  go_wp2_with fail
  rw [if_str _ _ _ (by simp [go_sem]; rfl)]
  go_wp2_with fail
  go_ret
  refine ⟨?_, ?_⟩
  · simp
  · repeat' first
      | exact Below.refl _ _
      | refine Below.alloc ?_ (by simp <;> omega) _

set_option maxRecDepth 100000 in
set_option maxHeartbeats 8000000 in
theorem str_p3 (s : ByteArray) (n : Nat) (hn : s.size = n) (a m : Nat) (b : Int) (w : World) (_ : n ≤ 1048576) (_ : a ≤ m) (_ : b < 0) (_ : (n : Int) + b = m) (_ : -9223372036854775808 ≤ b) :
    Calls Tryf.prog 10 #[.iface 9 (.string s), .iface 3 (.int .i64 a), .iface 3 (.int .i64 b)] w fun e w' => e = .returned (.iface 9 (.string (s.extract a m))) ∧ Below w.heap.size w w' := by
  subst hn
  go_enter Tryf.func10, Tryf.ntmps10
  go_wp2_with fail
  rw [ln_str _ s _ (by simp [go_sem])]
  go_wp2_with fail
  refine (toInt _ _).mono ?_
  rintro e w' ⟨rfl, rfl⟩
  go_wp2_with fail
  refine (toInt _ _).mono ?_
  rintro e w' ⟨rfl, rfl⟩
  go_wp2_with fail
  rw [sl_str _ _ _ s _ (by simp [go_sem]) (by omega) (by omega) (by omega)]
  go_wp2_with fail
  rw [if_str _ _ _ (by simp [go_sem]; rfl)]
  go_wp2_with fail
  go_ret
  refine ⟨?_, ?_⟩
  · simp
  · repeat' first
      | exact Below.refl _ _
      | refine Below.alloc ?_ (by simp <;> omega) _

set_option maxRecDepth 100000 in
set_option maxHeartbeats 8000000 in
theorem str_p4 (s : ByteArray) (n : Nat) (hn : s.size = n) (b : Int) (w : World) (_ : n ≤ 1048576) (_ : b < 0) (_ : (n : Int) + b < 0) (_ : -9223372036854775808 ≤ b) :
    Calls Tryf.prog 10 #[.iface 9 (.string s), .iface 3 (.int .i64 0), .iface 3 (.int .i64 b)] w fun e w' => e = .returned (.iface 9 (.string (s.extract 0 0))) ∧ Below w.heap.size w w' := by
  subst hn
  go_enter Tryf.func10, Tryf.ntmps10
  go_wp2_with fail
  rw [ln_str _ s _ (by simp [go_sem])]
  go_wp2_with fail
  refine (toInt _ _).mono ?_
  rintro e w' ⟨rfl, rfl⟩
  go_wp2_with fail
  refine (toInt _ _).mono ?_
  rintro e w' ⟨rfl, rfl⟩
  go_wp2_with fail
  rw [sl_str _ _ _ s _ (by simp [go_sem]) (by omega) (by omega) (by omega)]
  go_wp2_with fail
  rw [if_str _ _ _ (by simp [go_sem]; rfl)]
  go_wp2_with fail
  go_ret
  refine ⟨?_, ?_⟩
  · simp
  · repeat' first
      | exact Below.refl _ _
      | refine Below.alloc ?_ (by simp <;> omega) _

set_option maxRecDepth 100000 in
set_option maxHeartbeats 8000000 in
theorem str_p5 (s : ByteArray) (n : Nat) (hn : s.size = n) (a : Int) (w : World) (_ : n ≤ 1048576) (_ : (n : Int) < a) (_ : a ≤ 9223372036854775807) :
    Calls Tryf.prog 10 #[.iface 9 (.string s), .iface 3 (.int .i64 a), .iface 3 (.int .i64 n)] w fun e w' => e = .returned (.iface 9 (.string (s.extract n n))) ∧ Below w.heap.size w w' := by
  subst hn
  have g1 : ¬ a < 0 := by omega
  go_enter Tryf.func10, Tryf.ntmps10
  go_wp2_with fail
  rw [ln_str _ s _ (by simp [go_sem])]
  go_wp2_with fail
  refine (toInt _ _).mono ?_
  rintro e w' ⟨rfl, rfl⟩
  go_wp2_with fail
  refine (toInt _ _).mono ?_
  rintro e w' ⟨rfl, rfl⟩
  go_wp2_with fail
  rw [sl_str _ _ _ s _ (by simp [go_sem]) (by omega) (by omega) (by omega)]
  go_wp2_with fail
  rw [if_str _ _ _ (by simp [go_sem]; rfl)]
  go_wp2_with fail
  go_ret
  refine ⟨?_, ?_⟩
  · simp
  · repeat' first
      | exact Below.refl _ _
      | refine Below.alloc ?_ (by simp <;> omega) _

set_option maxRecDepth 100000 in
set_option maxHeartbeats 8000000 in
theorem str_p6 (s : ByteArray) (n : Nat) (hn : s.size = n) (a : Int) (m : Nat) (w : World) (_ : n ≤ 1048576) (_ : m ≤ n) (_ : a < 0) (_ : (n : Int) + a = m) (_ : -9223372036854775808 ≤ a) :
    Calls Tryf.prog 10 #[.iface 9 (.string s), .iface 3 (.int .i64 a), .iface 3 (.int .i64 n)] w fun e w' => e = .returned (.iface 9 (.string (s.extract m n))) ∧ Below w.heap.size w w' := by
  subst hn
  go_enter Tryf.func10, Tryf.ntmps10
  go_wp2_with fail
  rw [ln_str _ s _ (by simp [go_sem])]
  go_wp2_with fail
  refine (toInt _ _).mono ?_
  rintro e w' ⟨rfl, rfl⟩
  go_wp2_with fail
  refine (toInt _ _).mono ?_
  rintro e w' ⟨rfl, rfl⟩
  go_wp2_with fail
  rw [sl_str _ _ _ s _ (by simp [go_sem]) (by omega) (by omega) (by omega)]
  go_wp2_with fail
  rw [if_str _ _ _ (by simp [go_sem]; rfl)]
  go_wp2_with fail
  go_ret
  refine ⟨?_, ?_⟩
  · simp
  · repeat' first
      | exact Below.refl _ _
      | refine Below.alloc ?_ (by simp <;> omega) _

set_option maxRecDepth 100000 in
set_option maxHeartbeats 8000000 in
theorem str_p7 (s : ByteArray) (n : Nat) (hn : s.size = n) (a : Int) (w : World) (_ : n ≤ 1048576) (_ : a < 0) (_ : (n : Int) + a < 0) (_ : -9223372036854775808 ≤ a) :
    Calls Tryf.prog 10 #[.iface 9 (.string s), .iface 3 (.int .i64 a), .iface 3 (.int .i64 n)] w fun e w' => e = .returned (.iface 9 (.string (s.extract 0 n))) ∧ Below w.heap.size w w' := by
  subst hn
  go_enter Tryf.func10, Tryf.ntmps10
  go_wp2_with fail
  rw [ln_str _ s _ (by simp [go_sem])]
  go_wp2_with fail
  refine (toInt _ _).mono ?_
  rintro e w' ⟨rfl, rfl⟩
  go_wp2_with fail
  refine (toInt _ _).mono ?_
  rintro e w' ⟨rfl, rfl⟩
  go_wp2_with fail
  rw [sl_str _ _ _ s _ (by simp [go_sem]) (by omega) (by omega) (by omega)]
  go_wp2_with fail
  rw [if_str _ _ _ (by simp [go_sem]; rfl)]
  go_wp2_with fail
  go_ret
  refine ⟨?_, ?_⟩
  · simp
  · repeat' first
      | exact Below.refl _ _
      | refine Below.alloc ?_ (by simp <;> omega) _

end Go.Proofs.YtjdnfgpnfmgcmaaFmt
