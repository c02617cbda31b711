/-
  The walks of the bounds' functions of FnTernaryChainPrints. No condition but those in each statement.
-/
import Derived.Test.YtjpkoddghagdgaaFmtRPdJ
namespace Go.Proofs.YtjpkoddghagdgaaFmtR
open Go.RowKit Go.Extern.Stop Go.Stop Go.Extern

set_option maxHeartbeats 2000000 in
/-- zzBytes_FnTernaryChainPrints. -/
theorem zz29 (a1 a2 : Option Addr) (c1 c2 b1 b2 o1 o2 : Nat) (xs ys : List ByteArray) (l : ByteArray) (w : World) (hl : l.size ≤ 9223372036854775807) (hx : IsStrs w a1 b1 o1 xs) (hy : IsStrs w a2 b2 o2 ys) :
    Calls Tryf.prog 29 #[.slice a1 xs.length c1, .slice a2 ys.length c2, .string l] w fun e w' => Says (fun r => r = true → tot xs + tot ys + l.size ≤ 1048576 ∧ xs.length ≤ 1048576 ∧ ys.length ≤ 1048576) w e w' := by
  have HX := Lib.hid hx
  have HY := Lib.hid hy
  have hlen : xs.length ≤ 9223372036854775807 := hx.len
  have hlen2 : ys.length ≤ 9223372036854775807 := hy.len
  clear hx hy
  go_enter Tryf.func29, Tryf.ntmps29
  go_wp2
  all_goals try (go_ret; exact ⟨_, rfl, rfl, fun h => by cases h⟩)
  go_loop [7, 8] (fun n i => ∃ k m : Nat, k ≤ xs.length ∧ i = .int .i64 k ∧ n = .int .i64 m ∧ m ≤ 1048576 ∧ tot (xs.take k) ≤ m) (fun _ i => xs.length - (intOf i).toNat)
  case atStart => exact ⟨0, xs.length, Nat.zero_le _, rfl, by push_cast; rfl, by omega, by simp [tot]⟩
  case round =>
    obtain ⟨k, m, hk, rfl, rfl, hm, hle⟩ := hrel
    by_cases hlt : k < xs.length
    · have hz := HX.out.sizeAt hlt
      have hcell := HX.out.at hlt
      have ht := tot_take xs k hlt
      obtain ⟨ha, hbw⟩ := HX.out.ad (by omega)
      subst ha
      obtain ⟨s, hs⟩ : ∃ s, s = xs[k] := ⟨_, rfl⟩
      rw [← hs] at hz hcell ht
      clear hs
      have HT := Lib.hid ht
      have HLE := Lib.hid hle
      clear ht hle
      go_wp2
      · go_ret
        exact ⟨_, rfl, rfl, fun h => by cases h⟩
      · go_ret
        exact ⟨_, rfl, rfl, fun h => by cases h⟩
      · go_round
        case rel => exact ⟨k + 1, m + s.size, by omega, by go_num, by push_cast; rfl, by omega, by rw [HT.out]; have := HLE.out; omega⟩
        case measure => simp [intOf]; omega
    · have : k = xs.length := by omega
      subst this
      rw [tot_full] at hle
      have HLE := Lib.hid hle
      clear hle
      go_wp2
      all_goals try (go_ret; exact ⟨_, rfl, rfl, fun h => by cases h⟩)
      go_loop [7, 9] (fun n i => ∃ k m : Nat, k ≤ ys.length ∧ i = .int .i64 k ∧ n = .int .i64 m ∧ m ≤ 1048576 ∧ tot xs + tot (ys.take k) ≤ m) (fun _ i => ys.length - (intOf i).toNat)
      case atStart => exact ⟨0, m + ys.length, Nat.zero_le _, rfl, by push_cast; rfl, by omega, by have := HLE.out; simp [tot] at this ⊢; omega⟩
      case round =>
        obtain ⟨k, m2, hk, rfl, rfl, hm, hle⟩ := hrel
        by_cases hlt : k < ys.length
        · have hz := HY.out.sizeAt hlt
          have hcell := HY.out.at hlt
          have ht := tot_take ys k hlt
          obtain ⟨ha, hbw⟩ := HY.out.ad (by omega)
          subst ha
          obtain ⟨s, hs⟩ : ∃ s, s = ys[k] := ⟨_, rfl⟩
          rw [← hs] at hz hcell ht
          clear hs
          have HT := Lib.hid ht
          have HLE := Lib.hid hle
          clear ht hle
          go_wp2
          · go_ret
            exact ⟨_, rfl, rfl, fun h => by cases h⟩
          · go_ret
            exact ⟨_, rfl, rfl, fun h => by cases h⟩
          · go_round
            case rel => exact ⟨k + 1, m2 + s.size, by omega, by go_num, by push_cast; rfl, by omega, by rw [HT.out]; have := HLE.out; omega⟩
            case measure => simp [intOf]; omega
        · have : k = ys.length := by omega
          subst this
          rw [tot_full] at hle
          have HLE := Lib.hid hle
          clear hle
          go_wp2
          all_goals go_ret
          · exact ⟨_, rfl, rfl, fun h => by cases h⟩
          · exact ⟨_, rfl, rfl, fun h => by cases h⟩
          · exact ⟨_, rfl, rfl, fun _ => by have := HLE.out; omega⟩

set_option maxHeartbeats 1000000 in
/-- zzSize. -/
theorem zz30 (a : Option Addr) (c b o : Nat) (xs : List ByteArray) (w : World) (hx : IsStrs w a b o xs) :
    Calls Tryf.prog 30 #[.slice a xs.length c] w fun e w' => SaysInt w e w' := by
  have HX := Lib.hid hx
  have hlen : xs.length ≤ 9223372036854775807 := hx.len
  clear hx
  go_enter Tryf.func30, Tryf.ntmps30
  go_wp2
  all_goals try (go_ret; exact ⟨_, rfl, rfl⟩)
  go_loop [3, 4] (fun n i => ∃ k m : Nat, k ≤ xs.length ∧ i = .int .i64 k ∧ n = .int .i64 m ∧ m ≤ 1048576) (fun _ i => xs.length - (intOf i).toNat)
  case atStart => exact ⟨0, 16 * xs.length, Nat.zero_le _, rfl, by push_cast; rfl, by omega⟩
  case round =>
    obtain ⟨k, m, hk, rfl, rfl, hm⟩ := hrel
    by_cases hlt : k < xs.length
    · have hz := HX.out.sizeAt hlt
      have hcell := HX.out.at hlt
      obtain ⟨ha, hbw⟩ := HX.out.ad (by omega)
      subst ha
      obtain ⟨s, hs⟩ : ∃ s, s = xs[k] := ⟨_, rfl⟩
      rw [← hs] at hz hcell
      clear hs
      go_wp2
      all_goals first
        | (go_ret; exact ⟨_, rfl, rfl⟩)
        | (go_round
           · exact ⟨k + 1, m + s.size, by omega, by go_num, by push_cast; rfl, by omega⟩
           · simp [intOf]; omega)
    · go_wp2
      go_ret
      exact ⟨_, rfl, rfl⟩

end Go.Proofs.YtjpkoddghagdgaaFmtR
