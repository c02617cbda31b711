/-
  The walks of zzHas and zzIndex, and of the bound's function of the slice round trip. No condition but those in each statement.
-/
import Derived.Test.YtjpkoddghagdgaaFmtRSlExW
namespace Go.Proofs.YtjpkoddghagdgaaFmtR
open Go.RowKit Go.Extern.Stop Go.Stop Go.Extern

theorem u8_ne {a c : UInt8} (h : a ≠ c) : ((a.toNat : Int) == (c.toNat : Int)) = false := by
  simp only [beq_eq_false_iff_ne, ne_eq]
  intro e
  exact h (UInt8.toNat.inj (by omega))
theorem u8_eq {a c : UInt8} (h : a = c) : ((a.toNat : Int) == (c.toNat : Int)) = true := by rw [h]; simp

set_option maxHeartbeats 400000 in
theorem zz34_no (s : ByteArray) (c : UInt8) (w : World) (hs : s.size ≤ 140737488355328) (h : ∀ k (hk : k < s.size), s[k] ≠ c) :
    Calls Tryf.prog 34 #[.string s, .int .u8 c.toNat] w fun e w' => e = .returned (.bool false) ∧ w = w' := by
  have H := Lib.hid h
  clear h
  go_enter Tryf.func34, Tryf.ntmps34
  go_wp2
  go_loop [5] (fun i => ∃ k : Nat, k ≤ s.size ∧ i = .int .i64 k) (fun i => s.size - (intOf i).toNat)
  case atStart => exact ⟨0, Nat.zero_le _, rfl⟩
  case round =>
    obtain ⟨k, hk, rfl⟩ := hrel
    by_cases hlt : k < s.size
    · have c1 := u8_ne (H.out k hlt)
      go_wp2
      go_round
      case rel => exact ⟨k + 1, by omega, by go_num⟩
      case measure => simp [intOf]; omega
    · go_wp2
      go_ret
      exact ⟨rfl, rfl⟩

set_option maxHeartbeats 400000 in
theorem zz34_yes (s : ByteArray) (c : UInt8) (w : World) (hs : s.size ≤ 140737488355328) (j : Nat) (hj : j < s.size) (h : s[j] = c) (hb : ∀ k (hk : k < s.size), k < j → s[k] ≠ c) :
    Calls Tryf.prog 34 #[.string s, .int .u8 c.toNat] w fun e w' => e = .returned (.bool true) ∧ w = w' := by
  have H := Lib.hid h
  have HB := Lib.hid hb
  clear h hb
  go_enter Tryf.func34, Tryf.ntmps34
  go_wp2
  go_loop [5] (fun i => ∃ k : Nat, k ≤ j ∧ i = .int .i64 k) (fun i => s.size - (intOf i).toNat)
  case atStart => exact ⟨0, Nat.zero_le _, rfl⟩
  case round =>
    obtain ⟨k, hk, rfl⟩ := hrel
    have hlt : k < s.size := by omega
    by_cases e : k < j
    · have c1 := u8_ne (HB.out k hlt e)
      go_wp2
      go_round
      case rel => exact ⟨k + 1, by omega, by go_num⟩
      case measure => simp [intOf]; omega
    · obtain rfl : j = k := by omega
      have c1 := u8_eq H.out
      go_wp2
      go_ret
      exact ⟨rfl, rfl⟩

set_option maxHeartbeats 400000 in
theorem zz35_at (s : ByteArray) (c : UInt8) (w : World) (hs : s.size ≤ 140737488355328) (j : Nat) (hj : j < s.size) (h : s[j] = c) (hb : ∀ k (hk : k < s.size), k < j → s[k] ≠ c) :
    Calls Tryf.prog 35 #[.string s, .int .u8 c.toNat] w fun e w' => e = .returned (.int .i64 j) ∧ w = w' := by
  have H := Lib.hid h
  have HB := Lib.hid hb
  clear h hb
  go_enter Tryf.func35, Tryf.ntmps35
  go_wp2
  go_loop [5] (fun i => ∃ k : Nat, k ≤ j ∧ i = .int .i64 k) (fun i => s.size - (intOf i).toNat)
  case atStart => exact ⟨0, Nat.zero_le _, rfl⟩
  case round =>
    obtain ⟨k, hk, rfl⟩ := hrel
    have hlt : k < s.size := by omega
    by_cases e : k < j
    · have c1 := u8_ne (HB.out k hlt e)
      go_wp2
      go_round
      case rel => exact ⟨k + 1, by omega, by go_num⟩
      case measure => simp [intOf]; omega
    · obtain rfl : j = k := by omega
      have c1 := u8_eq H.out
      go_wp2
      go_ret
      exact ⟨rfl, rfl⟩

set_option maxHeartbeats 400000 in
theorem zz33_yes (a b c : ByteArray) (x y : Bool) (w : World) (h : a.size + b.size + c.size ≤ 1048576) : Calls Tryf.prog 33 #[.string a, .string b, .string c, .bool x, .bool y] w fun e w' => e = .returned (.bool true) ∧ w = w' := by
  have h1 : a.size ≤ 1048576 := by omega
  have h2 : b.size ≤ 1048576 := by omega
  have h3 : c.size ≤ 1048576 := by omega
  have h4 : a.size + b.size ≤ 1048576 := by omega
  go_enter Tryf.func33, Tryf.ntmps33
  go_wp2
  go_ret
  exact ⟨rfl, rfl⟩
set_option maxHeartbeats 400000 in
theorem zz33_no (a b c : ByteArray) (x y : Bool) (w : World) (h : 1048576 < a.size + b.size + c.size) (_ : a.size ≤ 140737488355328) (_ : b.size ≤ 140737488355328) (_ : c.size ≤ 140737488355328) : Calls Tryf.prog 33 #[.string a, .string b, .string c, .bool x, .bool y] w fun e w' => e = .returned (.bool false) ∧ w = w' := by
  go_enter Tryf.func33, Tryf.ntmps33
  go_wp2
  all_goals
    go_ret
    exact ⟨rfl, rfl⟩

end Go.Proofs.YtjpkoddghagdgaaFmtR
