/-
  runtime.Slice over whole numbers, one path of its clamps each. No condition but those in each statement.
-/
import Derived.Test.YtjdnfgpnfmgcmaaFmtSl
namespace Go.Proofs.YtjdnfgpnfmgcmaaFmt
open Go.RowKit

set_option maxRecDepth 100000 in
set_option maxHeartbeats 8000000 in
theorem ints_a0b1gt (p q : Option Addr) (n c n' c' : Nat) (a : Nat) (b : Int) (w : World) (_ : n ≤ 1048576) (_ : (n : Int) < b) (_ : b ≤ 9223372036854775807) (_ : n < a)
    (hsl : ∀ (x : Addr) (W : World), W.cell? x = some (.slice p n c) → (callFunc 20 #[rv 39 x 151, .int .i64 (n : Int), .int .i64 (n : Int)]).run Tryf.prog W = .ok (.value (rv 39 ⟨W.heap.size, 0, none⟩ 151)) (W.alloc (.cells #[.slice q n' c'] 39))) :
    Calls Tryf.prog 10 #[.iface 39 (.slice p n c), .iface 3 (.int .i64 (a : Int)), .iface 3 (.int .i64 b)] w fun e w' => e = .returned (.iface 39 (.slice q n' c')) ∧ Below w.heap.size w w' := by
  have HSL := Lib.hid hsl
  clear hsl
  have gb : ¬ b < 0 := by omega
  go_enter Tryf.func10, Tryf.ntmps10
  go_wp2_with fail
  rw [ln_ints _ p n c _ (by simp [go_sem])]
  go_wp2_with fail
  refine (toInt _ _).mono ?_
  rintro e w' ⟨rfl, rfl⟩
  go_wp2_with fail
  refine (toInt _ _).mono ?_
  rintro e w' ⟨rfl, rfl⟩
  go_wp2_with fail
  rw [HSL.out _ _ (by simp [go_sem])]
  go_wp2_with fail
  rw [if_ints _ _ _ (by simp [go_sem]; rfl)]
  go_wp2_with fail
  go_ret
  refine ⟨?_, ?_⟩
  · simp
  · repeat' first
      | exact Below.refl _ _
      | refine Below.alloc ?_ (by simp <;> omega) _

set_option maxRecDepth 100000 in
set_option maxHeartbeats 8000000 in
theorem ints_a1b0gt (p q : Option Addr) (n c n' c' : Nat) (a : Int) (m : Nat) (b : Nat) (w : World) (_ : n ≤ 1048576) (_ : a < 0) (_ : (n : Int) + a = m) (_ : -9223372036854775808 ≤ a) (_ : b ≤ n) (_ : b < m)
    (hsl : ∀ (x : Addr) (W : World), W.cell? x = some (.slice p n c) → (callFunc 20 #[rv 39 x 151, .int .i64 (b : Int), .int .i64 (b : Int)]).run Tryf.prog W = .ok (.value (rv 39 ⟨W.heap.size, 0, none⟩ 151)) (W.alloc (.cells #[.slice q n' c'] 39))) :
    Calls Tryf.prog 10 #[.iface 39 (.slice p n c), .iface 3 (.int .i64 a), .iface 3 (.int .i64 (b : Int))] w fun e w' => e = .returned (.iface 39 (.slice q n' c')) ∧ Below w.heap.size w w' := by
  have HSL := Lib.hid hsl
  clear hsl
  go_enter Tryf.func10, Tryf.ntmps10
  go_wp2_with fail
  rw [ln_ints _ p n c _ (by simp [go_sem])]
  go_wp2_with fail
  refine (toInt _ _).mono ?_
  rintro e w' ⟨rfl, rfl⟩
  go_wp2_with fail
  refine (toInt _ _).mono ?_
  rintro e w' ⟨rfl, rfl⟩
  go_wp2_with fail
  rw [HSL.out _ _ (by simp [go_sem])]
  go_wp2_with fail
  rw [if_ints _ _ _ (by simp [go_sem]; rfl)]
  go_wp2_with fail
  go_ret
  refine ⟨?_, ?_⟩
  · simp
  · repeat' first
      | exact Below.refl _ _
      | refine Below.alloc ?_ (by simp <;> omega) _

set_option maxRecDepth 100000 in
set_option maxHeartbeats 8000000 in
theorem ints_a2b0le (p q : Option Addr) (n c n' c' : Nat) (a : Int) (b : Nat) (w : World) (_ : n ≤ 1048576) (_ : a < 0) (_ : (n : Int) + a < 0) (_ : -9223372036854775808 ≤ a) (_ : b ≤ n)
    (hsl : ∀ (x : Addr) (W : World), W.cell? x = some (.slice p n c) → (callFunc 20 #[rv 39 x 151, .int .i64 (0 : Int), .int .i64 (b : Int)]).run Tryf.prog W = .ok (.value (rv 39 ⟨W.heap.size, 0, none⟩ 151)) (W.alloc (.cells #[.slice q n' c'] 39))) :
    Calls Tryf.prog 10 #[.iface 39 (.slice p n c), .iface 3 (.int .i64 a), .iface 3 (.int .i64 (b : Int))] w fun e w' => e = .returned (.iface 39 (.slice q n' c')) ∧ Below w.heap.size w w' := by
  have HSL := Lib.hid hsl
  clear hsl
  go_enter Tryf.func10, Tryf.ntmps10
  go_wp2_with fail
  rw [ln_ints _ p n c _ (by simp [go_sem])]
  go_wp2_with fail
  refine (toInt _ _).mono ?_
  rintro e w' ⟨rfl, rfl⟩
  go_wp2_with fail
  refine (toInt _ _).mono ?_
  rintro e w' ⟨rfl, rfl⟩
  go_wp2_with fail
  rw [HSL.out _ _ (by simp [go_sem])]
  go_wp2_with fail
  rw [if_ints _ _ _ (by simp [go_sem]; rfl)]
  go_wp2_with fail
  go_ret
  refine ⟨?_, ?_⟩
  · simp
  · repeat' first
      | exact Below.refl _ _
      | refine Below.alloc ?_ (by simp <;> omega) _

end Go.Proofs.YtjdnfgpnfmgcmaaFmt
