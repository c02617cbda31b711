/-
  runtime.Slice (byts), one path of its clamps each. No condition but those in each statement.
-/
import Derived.Test.YtjdnfgpnfmgcmaaFmtSb0
namespace Go.Proofs.YtjdnfgpnfmgcmaaFmt
open Go.RowKit

set_option maxRecDepth 100000 in
set_option maxHeartbeats 8000000 in
theorem byts_p3 (ad : Addr) (pb po n c : Nat) (_ : n ≤ c) (a m : Nat) (b : Int) (w : World) (_ : n ≤ 1048576) (_ : a ≤ m) (_ : b < 0) (_ : (n : Int) + b = m) (_ : -9223372036854775808 ≤ b) (had : ad = Addr.add ⟨pb, po, none⟩ (if 0 < c - a then a else 0)) :
    Calls Tryf.prog 10 #[.iface 35 (.slice (some ⟨pb, po, none⟩) n c), .iface 3 (.int .i64 a), .iface 3 (.int .i64 b)] w fun e w' => e = .returned (.iface 35 (.slice (some ad) (m - a) (c - a))) ∧ Below w.heap.size w w' := by
  have HAD : Hid (ad = Addr.add ⟨pb, po, none⟩ (if 0 < c - ((a : Int)).toNat then ((a : Int)).toNat else 0)) := by
    rw [had, show ((a : Int)).toNat = a by omega]
    exact Lib.hid rfl
  clear had
  go_enter Tryf.func10, Tryf.ntmps10
  go_wp2_with fail
  rw [ln_byts _ (some ⟨pb, po, none⟩) n c _ (by simp [go_sem])]
  go_wp2_with fail
  refine (toInt _ _).mono ?_
  rintro e w' ⟨rfl, rfl⟩
  go_wp2_with fail
  refine (toInt _ _).mono ?_
  rintro e w' ⟨rfl, rfl⟩
  go_wp2_with fail
  rw [sl_byts_at ad _ _ _ pb po n c _ HAD (by simp [go_sem]) (by omega) (by omega) (by omega)]
  go_wp2_with fail
  rw [if_byts _ _ _ (by simp [go_sem]; rfl)]
  go_wp2_with fail
  go_ret
  refine ⟨?_, ?_⟩
  · simp
  · repeat' first
      | exact Below.refl _ _
      | refine Below.alloc ?_ (by simp <;> omega) _

end Go.Proofs.YtjdnfgpnfmgcmaaFmt
