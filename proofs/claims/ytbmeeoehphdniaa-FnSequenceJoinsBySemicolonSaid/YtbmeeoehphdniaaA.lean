/-
  Small words of this seat's texts; lists of strings that came in; the walks of the bounds' functions. No condition but those in each statement.
-/
import Derived.Test.YtbmeeoehphdniaaRows
import Derived.WalkKit
import Derived.WalkSpells
import Derived.Handy
import Derived.Lib.Hide
import Derived.ProofKit
import Derived.Carry
import Derived.SliceStrings
import Derived.LoopTactic
import Derived.OwnWalk
import Derived.SizedLaws
namespace Go.Proofs.Ytbmeeoehphdniaa
open Go.RowKit
open Go.ChangeShapes Go.WideShapes Go.ChangeAt

def bs (l : List UInt8) : ByteArray := ⟨l.toArray⟩
theorem bs_list (l : List UInt8) : (bs l).data.toList = l := rfl
theorem list_bs (s : ByteArray) : bs s.data.toList = s := rfl
theorem bs_size (l : List UInt8) : (bs l).size = l.length := by simp [bs, ByteArray.size]
theorem size_list (s : ByteArray) : s.data.toList.length = s.size := rfl
theorem ret_str' {a b : ByteArray} (h : a = b) : Ending.returned (.string a) = .returned (.string b) := by rw [h]
theorem ret_bool' {a b : Bool} (h : a = b) : Ending.returned (.bool a) = .returned (.bool b) := by rw [h]

theorem Try.cells9 : Try.prog.cellsOf 9 = 1 := by kernel_rfl

/-- A slice of strings as the walk wants it: nil or not. -/
structure IsStrs (w : World) (a : Option Addr) (b o : Nat) (xs : List ByteArray) : Prop where
  ad : 0 < xs.length → a = some ⟨b, o, none⟩ ∧ b < w.heap.size
  cell : ∀ j x, xs[j]? = some x → w.cell? ⟨b, o + j, none⟩ = some (.string x)
  size : ∀ x ∈ xs, x.size ≤ maxLen
  len : xs.length ≤ maxLen

theorem IsStrs.at {w : World} {a : Option Addr} {b o : Nat} {xs : List ByteArray} (h : IsStrs w a b o xs) {k : Nat} (hk : k < xs.length) : w.cell? ⟨b, o + k, none⟩ = some (.string (xs[k])) :=
  h.cell k _ (List.getElem?_eq_getElem hk)
theorem IsStrs.sizeAt {w : World} {a : Option Addr} {b o : Nat} {xs : List ByteArray} (h : IsStrs w a b o xs) {k : Nat} (hk : k < xs.length) : (xs[k]).size ≤ 9223372036854775807 :=
  h.size _ (List.getElem_mem hk)
theorem IsStrs.below {w w' : World} {n : Nat} {a : Option Addr} {b o : Nat} {xs : List ByteArray} (h : IsStrs w a b o xs) (hb : Below n w w') (hn : w.heap.size ≤ n) : IsStrs w' a b o xs := by
  have key : 0 < xs.length → b < n := fun h0 => Nat.lt_of_lt_of_le (h.ad h0).2 hn
  refine ⟨fun h0 => ⟨(h.ad h0).1, Nat.lt_of_lt_of_le (h.ad h0).2 hb.size⟩, fun j x hx => ?_, h.size, h.len⟩
  have hj := (List.getElem?_eq_some_iff.1 hx).1
  exact (hb.cell (p := ⟨b, o + j, none⟩) (key (by omega))).trans (h.cell j x hx)

theorem cell_lt {w : World} {a : Addr} {v : Value} (h : w.cell? a = some v) : a.block < w.heap.size := by
  rcases Nat.lt_or_ge a.block w.heap.size with h' | h'
  · exact h'
  · simp [World.cell?, Array.getElem?_eq_none h'] at h

set_option maxRecDepth 100000 in
theorem open_strs {H : Type} {enc : TypeId × Value → H} {W : World} {v : Value} {d : DataW H} {ps : List MemPlace} (hv : Value.okWide Try.prog W .any 0 36 v)
    (hf : DataW.Trod enc Try.prog W 0 (fun _ => true) true 36 v d ps) :
    ∃ (a : Option Addr) (c b o : Nat) (xs : List ByteArray), v = .slice a xs.length c ∧ IsStrs W a b o xs := by
  obtain ⟨a0, len, cap, rfl⟩ := okWide_slice Try.underlying36 hv
  obtain ⟨fuel, hf⟩ := hf
  rcases open_strings Try.underlying36 Try.underlying9 Try.cells9 hf with ⟨hcs, hx⟩ | ⟨a, len', cap', ss, hcs, _, hl, hm, hz, hx, hcell, hsz⟩
  · simp [Value.cells] at hcs
    obtain ⟨rfl, rfl, rfl⟩ := hcs
    exact ⟨none, 0, 0, 0, [], rfl, fun h => absurd h (by simp), fun j X h => by simp at h, fun x h => by simp at h, Nat.zero_le _⟩
  · simp [Value.cells] at hcs
    obtain ⟨rfl, rfl, rfl⟩ := hcs
    simp only [if_true] at hz
    obtain ⟨b, off, spot⟩ := a
    have hlen : (ss.take len).length = len := by simp; omega
    refine ⟨_, cap, b, off, ss.take len, by rw [hlen], fun h0 => ?_, fun j X hX => ?_, fun x hx => hsz x (List.mem_of_mem_take hx), by rw [hlen]; omega⟩
    · have hspot : spot = none := by simpa [Addr.add] using World.cell?_spot (hcell 0 (by omega))
      subst hspot
      exact ⟨rfl, cell_lt (hcell 0 (by omega))⟩
    · have hj : j < len := by
        have := (List.getElem?_eq_some_iff.1 hX).1
        simp at this
        omega
      have hspot : spot = none := by simpa [Addr.add] using World.cell?_spot (hcell 0 (by omega))
      subst hspot
      have hX' : ss.getD j ByteArray.empty = X := by
        rw [List.getElem?_take_of_lt hj] at hX
        simp [List.getD, hX]
      rw [← add_plain, ← hX']
      exact hcell j (by omega)

/-- A bool is returned, the world is as it was, and of the bool p holds. -/
def Says (p : Bool → Prop) (w : World) (e : Ending) (w' : World) : Prop := ∃ r, e = .returned (.bool r) ∧ w = w' ∧ p r

/-- The sum of the lengths. -/
def tot (xs : List ByteArray) : Nat := (xs.map ByteArray.size).sum

theorem tot_take (xs : List ByteArray) (k : Nat) (h : k < xs.length) : tot (xs.take (k + 1)) = tot (xs.take k) + (xs[k]).size := by
  unfold tot
  rw [List.take_succ_eq_append_getElem h, List.map_append, List.sum_append]
  simp
theorem tot_full (xs : List ByteArray) : tot (xs.take xs.length) = tot xs := by rw [List.take_length]

/-- An int is returned; the world is as it was. -/
def SaysInt (w : World) (e : Ending) (w' : World) : Prop := ∃ t : Int, e = .returned (.int .i64 t) ∧ w = w'

set_option maxHeartbeats 1000000 in
theorem zz5 (a : Option Addr) (c b o : Nat) (xs : List ByteArray) (w : World) (hx : IsStrs w a b o xs) :
    Calls Try.prog 5 #[.slice a xs.length c] w fun e w' => Says (fun r => r = true → tot xs ≤ 1048576 ∧ xs.length ≤ 1048576) w e w' := by
  have HX := Lib.hid hx
  have hlen : xs.length ≤ 9223372036854775807 := hx.len
  clear hx
  go_enter Try.func5, Try.ntmps5
  go_wp2
  all_goals try (go_ret; exact ⟨_, rfl, rfl, fun h => by cases h⟩)
  go_loop [3, 4] (fun n i => ∃ k m : Nat, k ≤ xs.length ∧ i = .int .i64 k ∧ n = .int .i64 m ∧ m ≤ 1048576 ∧ tot (xs.take k) ≤ m) (fun _ i => xs.length - (intOf i).toNat)
  case atStart => exact ⟨0, xs.length, Nat.zero_le _, rfl, by push_cast; rfl, by omega, by simp [tot]⟩
  case round =>
    obtain ⟨k, m, hk, rfl, rfl, hm, hle⟩ := hrel
    by_cases hlt : k < xs.length
    · have hz := HX.out.sizeAt hlt
      have hcell := HX.out.at hlt
      have ht := tot_take xs k hlt
      obtain ⟨ha, hbw⟩ := HX.out.ad (by omega)
      subst ha
      obtain ⟨s, hs⟩ : ∃ s, s = xs[k] := ⟨_, rfl⟩
      rw [← hs] at hz hcell ht
      clear hs
      have HT := Lib.hid ht
      have HLE := Lib.hid hle
      clear ht hle
      go_wp2
      · go_ret
        exact ⟨_, rfl, rfl, fun h => by cases h⟩
      · go_ret
        exact ⟨_, rfl, rfl, fun h => by cases h⟩
      · go_round
        case rel => exact ⟨k + 1, m + s.size, by omega, by go_num, by push_cast; rfl, by omega, by rw [HT.out]; have := HLE.out; omega⟩
        case measure => simp [intOf]; omega
    · have : k = xs.length := by omega
      subst this
      go_wp2
      go_ret
      exact ⟨_, rfl, rfl, fun _ => by rw [tot_full] at hle; omega⟩

set_option maxHeartbeats 2000000 in
theorem zz9 (a1 a2 : Option Addr) (c1 c2 b1 b2 o1 o2 : Nat) (xs ys : List ByteArray) (w : World) (hx : IsStrs w a1 b1 o1 xs) (hy : IsStrs w a2 b2 o2 ys) :
    Calls Try.prog 9 #[.slice a1 xs.length c1, .slice a2 ys.length c2] w fun e w' => Says (fun r => r = true → tot xs + tot ys ≤ 1048576 ∧ xs.length ≤ 1048576 ∧ ys.length ≤ 1048576) w e w' := by
  have HX := Lib.hid hx
  have HY := Lib.hid hy
  have hlen : xs.length ≤ 9223372036854775807 := hx.len
  have hlen2 : ys.length ≤ 9223372036854775807 := hy.len
  clear hx hy
  go_enter Try.func9, Try.ntmps9
  go_wp2
  all_goals try (go_ret; exact ⟨_, rfl, rfl, fun h => by cases h⟩)
  go_loop [5, 6] (fun n i => ∃ k m : Nat, k ≤ xs.length ∧ i = .int .i64 k ∧ n = .int .i64 m ∧ m ≤ 1048576 ∧ tot (xs.take k) ≤ m) (fun _ i => xs.length - (intOf i).toNat)
  case atStart => exact ⟨0, xs.length, Nat.zero_le _, rfl, by push_cast; rfl, by omega, by simp [tot]⟩
  case round =>
    obtain ⟨k, m, hk, rfl, rfl, hm, hle⟩ := hrel
    by_cases hlt : k < xs.length
    · have hz := HX.out.sizeAt hlt
      have hcell := HX.out.at hlt
      have ht := tot_take xs k hlt
      obtain ⟨ha, hbw⟩ := HX.out.ad (by omega)
      subst ha
      obtain ⟨s, hs⟩ : ∃ s, s = xs[k] := ⟨_, rfl⟩
      rw [← hs] at hz hcell ht
      clear hs
      have HT := Lib.hid ht
      have HLE := Lib.hid hle
      clear ht hle
      go_wp2
      · go_ret
        exact ⟨_, rfl, rfl, fun h => by cases h⟩
      · go_ret
        exact ⟨_, rfl, rfl, fun h => by cases h⟩
      · go_round
        case rel => exact ⟨k + 1, m + s.size, by omega, by go_num, by push_cast; rfl, by omega, by rw [HT.out]; have := HLE.out; omega⟩
        case measure => simp [intOf]; omega
    · have : k = xs.length := by omega
      subst this
      rw [tot_full] at hle
      have HLE := Lib.hid hle
      clear hle
      go_wp2
      all_goals try (go_ret; exact ⟨_, rfl, rfl, fun h => by cases h⟩)
      go_loop [5, 7] (fun n i => ∃ k m : Nat, k ≤ ys.length ∧ i = .int .i64 k ∧ n = .int .i64 m ∧ m ≤ 1048576 ∧ tot xs + tot (ys.take k) ≤ m) (fun _ i => ys.length - (intOf i).toNat)
      case atStart => exact ⟨0, m + ys.length, Nat.zero_le _, rfl, by push_cast; rfl, by omega, by have := HLE.out; simp [tot] at this ⊢; omega⟩
      case round =>
        obtain ⟨k, m2, hk, rfl, rfl, hm, hle⟩ := hrel
        by_cases hlt : k < ys.length
        · have hz := HY.out.sizeAt hlt
          have hcell := HY.out.at hlt
          have ht := tot_take ys k hlt
          obtain ⟨ha, hbw⟩ := HY.out.ad (by omega)
          subst ha
          obtain ⟨s, hs⟩ : ∃ s, s = ys[k] := ⟨_, rfl⟩
          rw [← hs] at hz hcell ht
          clear hs
          have HT := Lib.hid ht
          have HLE := Lib.hid hle
          clear ht hle
          go_wp2
          · go_ret
            exact ⟨_, rfl, rfl, fun h => by cases h⟩
          · go_ret
            exact ⟨_, rfl, rfl, fun h => by cases h⟩
          · go_round
            case rel => exact ⟨k + 1, m2 + s.size, by omega, by go_num, by push_cast; rfl, by omega, by rw [HT.out]; have := HLE.out; omega⟩
            case measure => simp [intOf]; omega
        · have : k = ys.length := by omega
          subst this
          rw [tot_full] at hle
          have HLE := Lib.hid hle
          clear hle
          go_wp2
          go_ret
          exact ⟨_, rfl, rfl, fun _ => by have := HLE.out; omega⟩

set_option maxHeartbeats 1000000 in
/-- zzSize. -/
theorem zz6 (a : Option Addr) (c b o : Nat) (xs : List ByteArray) (w : World) (hx : IsStrs w a b o xs) :
    Calls Try.prog 6 #[.slice a xs.length c] w fun e w' => SaysInt w e w' := by
  have HX := Lib.hid hx
  have hlen : xs.length ≤ 9223372036854775807 := hx.len
  clear hx
  go_enter Try.func6, Try.ntmps6
  go_wp2
  all_goals try (go_ret; exact ⟨_, rfl, rfl⟩)
  go_loop [3, 4] (fun n i => ∃ k m : Nat, k ≤ xs.length ∧ i = .int .i64 k ∧ n = .int .i64 m ∧ m ≤ 1048576) (fun _ i => xs.length - (intOf i).toNat)
  case atStart => exact ⟨0, 16 * xs.length, Nat.zero_le _, rfl, by push_cast; rfl, by omega⟩
  case round =>
    obtain ⟨k, m, hk, rfl, rfl, hm⟩ := hrel
    by_cases hlt : k < xs.length
    · have hz := HX.out.sizeAt hlt
      have hcell := HX.out.at hlt
      obtain ⟨ha, hbw⟩ := HX.out.ad (by omega)
      subst ha
      obtain ⟨s, hs⟩ : ∃ s, s = xs[k] := ⟨_, rfl⟩
      rw [← hs] at hz hcell
      clear hs
      go_wp2
      all_goals first
        | (go_ret; exact ⟨_, rfl, rfl⟩)
        | (go_round
           · exact ⟨k + 1, m + s.size, by omega, by go_num, by push_cast; rfl, by omega⟩
           · simp [intOf]; omega)
    · go_wp2
      go_ret
      exact ⟨_, rfl, rfl⟩

end Go.Proofs.Ytbmeeoehphdniaa
