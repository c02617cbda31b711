/-
  At all bounds a, b, runtime.Slice gives the window of the law. No condition but those in each statement.
-/
import Derived.Test.YtjdnfgpnfmgcmaaFmtZi
import Derived.Test.YtjdnfgpnfmgcmaaFmtSi1
import Derived.Test.YtjdnfgpnfmgcmaaFmtSi2
import Derived.Test.YtjdnfgpnfmgcmaaFmtSi3
import Derived.Test.YtjdnfgpnfmgcmaaFmtSi4
import Derived.Test.YtjdnfgpnfmgcmaaFmtSi5
import Derived.Test.YtjdnfgpnfmgcmaaFmtSi6
namespace Go.Proofs.YtjdnfgpnfmgcmaaFmt
open Go.RowKit

set_option maxHeartbeats 4000000 in
theorem windows (n : Nat) (a b S E : Int) (hn : n ≤ 1048576) (ha1 : -9223372036854775808 ≤ a) (ha2 : a ≤ 9223372036854775807) (hb1 : -9223372036854775808 ≤ b) (hb2 : b ≤ 9223372036854775807)
    (hS : a < 0 ∧ (n : Int) + a = S ∨ 0 ≤ a ∧ a = S) (hE : b < 0 ∧ (n : Int) + b = E ∨ 0 ≤ b ∧ b = E) : ∃ A B, Window n a b S E A B := by
  -- the right bound
  rcases Int.lt_or_le b 0 with b0 | b0
  · rcases Int.lt_or_le ((n : Int) + b) 0 with e0 | e0
    · -- b3
      rcases Int.lt_or_le a 0 with a0 | a0
      · rcases Int.lt_or_le ((n : Int) + a) 0 with s0 | s0
        · exact ⟨0, 0, by omega, by omega, fun k hk => by omega, fun p q cap n' c' w h => zz9 p q n cap n' c' _ _ w (ints_a2b3le p q n cap n' c' a b w hn a0 s0 ha1 b0 e0 hb1 h)⟩
        · obtain ⟨m, hm⟩ : ∃ m : Nat, (n : Int) + a = (m : Int) := ⟨((n : Int) + a).toNat, by omega⟩
          by_cases m0 : m = 0
          · subst m0
            exact ⟨0, 0, by omega, by omega, fun k hk => by omega, fun p q cap n' c' w h => zz9 p q n cap n' c' _ _ w (ints_a1b3le p q n cap n' c' a b w hn a0 hm ha1 b0 e0 hb1 h)⟩
          · exact ⟨0, 0, by omega, by omega, fun k hk => by omega, fun p q cap n' c' w h => zz9 p q n cap n' c' _ _ w (ints_a1b3gt p q n cap n' c' a m b w hn a0 hm ha1 b0 e0 hb1 (by omega) h)⟩
      · obtain ⟨m, rfl⟩ : ∃ m : Nat, a = (m : Int) := ⟨a.toNat, by omega⟩
        by_cases m0 : m = 0
        · subst m0
          exact ⟨0, 0, by omega, by omega, fun k hk => by omega, fun p q cap n' c' w h => zz9 p q n cap n' c' _ _ w (ints_a0b3le p q n cap n' c' b w hn b0 e0 hb1 h)⟩
        · exact ⟨0, 0, by omega, by omega, fun k hk => by omega, fun p q cap n' c' w h => zz9 p q n cap n' c' _ _ w (ints_a0b3gt p q n cap n' c' m b w hn b0 e0 hb1 (by omega) h)⟩
    · -- b2
      obtain ⟨e, he⟩ : ∃ e : Nat, (n : Int) + b = (e : Int) := ⟨((n : Int) + b).toNat, by omega⟩
      rcases Int.lt_or_le a 0 with a0 | a0
      · rcases Int.lt_or_le ((n : Int) + a) 0 with s0 | s0
        · exact ⟨0, e, by omega, by omega, fun k hk => by omega, fun p q cap n' c' w h => zz9 p q n cap n' c' _ _ w (ints_a2b2le p q n cap n' c' a b e w hn a0 s0 ha1 b0 he hb1 h)⟩
        · obtain ⟨m, hm⟩ : ∃ m : Nat, (n : Int) + a = (m : Int) := ⟨((n : Int) + a).toNat, by omega⟩
          rcases Nat.lt_or_ge e m with c0 | c0
          · exact ⟨e, e, by omega, by omega, fun k hk => by omega, fun p q cap n' c' w h => zz9 p q n cap n' c' _ _ w (ints_a1b2gt p q n cap n' c' a m b e w hn a0 hm ha1 b0 he hb1 c0 h)⟩
          · exact ⟨m, e, by omega, by omega, fun k hk => by omega, fun p q cap n' c' w h => zz9 p q n cap n' c' _ _ w (ints_a1b2le p q n cap n' c' a m b e w hn a0 hm ha1 b0 he hb1 c0 h)⟩
      · obtain ⟨m, rfl⟩ : ∃ m : Nat, a = (m : Int) := ⟨a.toNat, by omega⟩
        rcases Nat.lt_or_ge e m with c0 | c0
        · exact ⟨e, e, by omega, by omega, fun k hk => by omega, fun p q cap n' c' w h => zz9 p q n cap n' c' _ _ w (ints_a0b2gt p q n cap n' c' m b e w hn b0 he hb1 c0 h)⟩
        · exact ⟨m, e, by omega, by omega, fun k hk => by omega, fun p q cap n' c' w h => zz9 p q n cap n' c' _ _ w (ints_a0b2le p q n cap n' c' m b e w hn b0 he hb1 c0 h)⟩
  · rcases Int.lt_or_le (n : Int) b with e0 | e0
    · -- b1
      rcases Int.lt_or_le a 0 with a0 | a0
      · rcases Int.lt_or_le ((n : Int) + a) 0 with s0 | s0
        · exact ⟨0, n, by omega, by omega, fun k hk => by omega, fun p q cap n' c' w h => zz9 p q n cap n' c' _ _ w (ints_a2b1le p q n cap n' c' a b w hn a0 s0 ha1 e0 hb2 h)⟩
        · obtain ⟨m, hm⟩ : ∃ m : Nat, (n : Int) + a = (m : Int) := ⟨((n : Int) + a).toNat, by omega⟩
          exact ⟨m, n, by omega, by omega, fun k hk => by omega, fun p q cap n' c' w h => zz9 p q n cap n' c' _ _ w (ints_a1b1le p q n cap n' c' a m b w hn a0 hm ha1 e0 hb2 (by omega) h)⟩
      · obtain ⟨m, rfl⟩ : ∃ m : Nat, a = (m : Int) := ⟨a.toNat, by omega⟩
        rcases Nat.lt_or_ge n m with c0 | c0
        · exact ⟨n, n, by omega, by omega, fun k hk => by omega, fun p q cap n' c' w h => zz9 p q n cap n' c' _ _ w (ints_a0b1gt p q n cap n' c' m b w hn e0 hb2 c0 h)⟩
        · exact ⟨m, n, by omega, by omega, fun k hk => by omega, fun p q cap n' c' w h => zz9 p q n cap n' c' _ _ w (ints_a0b1le p q n cap n' c' m b w hn e0 hb2 c0 h)⟩
    · -- b0
      obtain ⟨e, rfl⟩ : ∃ e : Nat, b = (e : Int) := ⟨b.toNat, by omega⟩
      rcases Int.lt_or_le a 0 with a0 | a0
      · rcases Int.lt_or_le ((n : Int) + a) 0 with s0 | s0
        · exact ⟨0, e, by omega, by omega, fun k hk => by omega, fun p q cap n' c' w h => zz9 p q n cap n' c' _ _ w (ints_a2b0le p q n cap n' c' a e w hn a0 s0 ha1 (by omega) h)⟩
        · obtain ⟨m, hm⟩ : ∃ m : Nat, (n : Int) + a = (m : Int) := ⟨((n : Int) + a).toNat, by omega⟩
          rcases Nat.lt_or_ge e m with c0 | c0
          · exact ⟨e, e, by omega, by omega, fun k hk => by omega, fun p q cap n' c' w h => zz9 p q n cap n' c' _ _ w (ints_a1b0gt p q n cap n' c' a m e w hn a0 hm ha1 (by omega) c0 h)⟩
          · exact ⟨m, e, by omega, by omega, fun k hk => by omega, fun p q cap n' c' w h => zz9 p q n cap n' c' _ _ w (ints_a1b0le p q n cap n' c' a m e w hn a0 hm ha1 (by omega) c0 h)⟩
      · obtain ⟨m, rfl⟩ : ∃ m : Nat, a = (m : Int) := ⟨a.toNat, by omega⟩
        rcases Nat.lt_or_ge e m with c0 | c0
        · exact ⟨e, e, by omega, by omega, fun k hk => by omega, fun p q cap n' c' w h => zz9 p q n cap n' c' _ _ w (ints_a0b0gt p q n cap n' c' m e w hn (by omega) c0 h)⟩
        · exact ⟨m, e, by omega, by omega, fun k hk => by omega, fun p q cap n' c' w h => zz9 p q n cap n' c' _ _ w (ints_a0b0le p q n cap n' c' m e w hn (by omega) c0 h)⟩

end Go.Proofs.YtjdnfgpnfmgcmaaFmt
