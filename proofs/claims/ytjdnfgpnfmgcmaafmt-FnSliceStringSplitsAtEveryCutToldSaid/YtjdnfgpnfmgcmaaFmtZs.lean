/-
  The wrappers ZZSliceString and ZZSliceBytes over runtime.Slice, and the law's bound. No condition but those in each statement.
-/
import Derived.Test.YtjdnfgpnfmgcmaaFmtSl
namespace Go.Proofs.YtjdnfgpnfmgcmaaFmt
open Go.RowKit

set_option maxHeartbeats 1000000 in
theorem zz6 (s X : ByteArray) (a b : Int) (w : World) (h : Calls Tryf.prog 10 #[.iface 9 (.string s), .iface 3 (.int .i64 a), .iface 3 (.int .i64 b)] w fun e w' => e = .returned (.iface 9 (.string X)) ∧ Below w.heap.size w w') :
    Calls Tryf.prog 6 #[.string s, .int .i64 a, .int .i64 b] w fun e w' => e = .returned (.string X) ∧ Below w.heap.size w w' := by
  have H := Lib.hid h
  clear h
  go_enter Tryf.func6, Tryf.ntmps6
  go_wp2_with fail
  refine H.out.mono ?_
  rintro e w1 ⟨rfl, hb⟩
  go_wp2
  go_ret
  exact ⟨rfl, hb⟩

set_option maxHeartbeats 1000000 in
theorem zz7 (p q : Option Addr) (n c n' c' : Nat) (a b : Int) (w : World) (h : Calls Tryf.prog 10 #[.iface 35 (.slice p n c), .iface 3 (.int .i64 a), .iface 3 (.int .i64 b)] w fun e w' => e = .returned (.iface 35 (.slice q n' c')) ∧ Below w.heap.size w w') :
    Calls Tryf.prog 7 #[.slice p n c, .int .i64 a, .int .i64 b] w fun e w' => e = .returned (.slice q n' c') ∧ Below w.heap.size w w' := by
  have H := Lib.hid h
  clear h
  go_enter Tryf.func7, Tryf.ntmps7
  go_wp2_with fail
  refine H.out.mono ?_
  rintro e w1 ⟨rfl, hb⟩
  go_wp2
  go_ret
  exact ⟨rfl, hb⟩

set_option maxHeartbeats 400000 in
theorem zz5_yes (s : ByteArray) (k : Int) (w : World) (h : s.size ≤ 1048576) : Calls Tryf.prog 5 #[.string s, .int .i64 k] w fun e w' => e = .returned (.bool true) ∧ w = w' := by
  go_enter Tryf.func5, Tryf.ntmps5
  go_wp2
  go_ret
  exact ⟨rfl, rfl⟩
set_option maxHeartbeats 400000 in
theorem zz5_no (s : ByteArray) (k : Int) (w : World) (h : 1048576 < s.size) (_ : s.size ≤ 9223372036854775807) : Calls Tryf.prog 5 #[.string s, .int .i64 k] w fun e w' => e = .returned (.bool false) ∧ w = w' := by
  go_enter Tryf.func5, Tryf.ntmps5
  go_wp2
  go_ret
  exact ⟨rfl, rfl⟩

end Go.Proofs.YtjdnfgpnfmgcmaaFmt
