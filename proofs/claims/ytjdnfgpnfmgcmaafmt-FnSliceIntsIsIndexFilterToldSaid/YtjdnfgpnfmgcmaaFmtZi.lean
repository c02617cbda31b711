/-
  The wrapper ZZSliceInts over runtime.Slice, the law's bound, and what a slicing of whole numbers is asked to give. No condition but those in each statement.
-/
import Derived.Test.YtjdnfgpnfmgcmaaFmtSl
namespace Go.Proofs.YtjdnfgpnfmgcmaaFmt
open Go.RowKit Go.Extern

set_option maxHeartbeats 1000000 in
theorem zz9 (p q : Option Addr) (n c n' c' : Nat) (a b : Int) (w : World) (h : Calls Tryf.prog 10 #[.iface 39 (.slice p n c), .iface 3 (.int .i64 a), .iface 3 (.int .i64 b)] w fun e w' => e = .returned (.iface 39 (.slice q n' c')) ∧ Below w.heap.size w w') :
    Calls Tryf.prog 9 #[.slice p n c, .int .i64 a, .int .i64 b] w fun e w' => e = .returned (.slice q n' c') ∧ Below w.heap.size w w' := by
  have H := Lib.hid h
  clear h
  go_enter Tryf.func9, Tryf.ntmps9
  go_wp2_with fail
  refine H.out.mono ?_
  rintro e w1 ⟨rfl, hb⟩
  go_wp2
  go_ret
  exact ⟨rfl, hb⟩

set_option maxHeartbeats 400000 in
theorem zz8_yes (p : Option Addr) (n c : Nat) (a b : Int) (w : World) (_ : n ≤ 1048576) : Calls Tryf.prog 8 #[.slice p n c, .int .i64 a, .int .i64 b] w fun e w' => e = .returned (.bool true) ∧ w = w' := by
  go_enter Tryf.func8, Tryf.ntmps8
  go_wp2
  go_ret
  exact ⟨rfl, rfl⟩
set_option maxHeartbeats 400000 in
theorem zz8_no (p : Option Addr) (n c : Nat) (a b : Int) (w : World) (_ : 1048576 < n) (_ : n ≤ 9223372036854775807) : Calls Tryf.prog 8 #[.slice p n c, .int .i64 a, .int .i64 b] w fun e w' => e = .returned (.bool false) ∧ w = w' := by
  go_enter Tryf.func8, Tryf.ntmps8
  go_wp2
  go_ret
  exact ⟨rfl, rfl⟩

def GaveInts (G A n c' : Nat) (w : World) (e : Ending) (w' : World) : Prop := ∃ d, (d = A ∨ n = 0) ∧ e = .returned (.slice (some ⟨G, d, none⟩) n c') ∧ Below w.heap.size w w'

/-- What runtime.Slice answers at the bounds a, b: the part from A to B; S and E are the law's bounds of the index. -/
structure Window (n : Nat) (a b S E : Int) (A B : Nat) : Prop where
  ab : A ≤ B
  bn : B ≤ n
  win : ∀ k : Nat, k < n → ((S ≤ k ∧ k < E) ↔ (A ≤ k ∧ k < B))
  call : ∀ (p q : Option Addr) (cap n' c' : Nat) w, (∀ (x : Addr) (W : World), W.cell? x = some (.slice p n cap) → (callFunc 20 #[rv 39 x 151, .int .i64 (A : Int), .int .i64 (B : Int)]).run Tryf.prog W = .ok (.value (rv 39 ⟨W.heap.size, 0, none⟩ 151)) (W.alloc (.cells #[.slice q n' c'] 39))) →
    Calls Tryf.prog 9 #[.slice p n cap, .int .i64 a, .int .i64 b] w fun e w' => e = .returned (.slice q n' c') ∧ Below w.heap.size w w'

theorem add_zero_lit (B j : Nat) : (⟨B, 0, none⟩ : Addr).add j = ⟨B, j, none⟩ := by
  unfold Addr.add
  split <;> simp_all

theorem Window.got {n A B : Nat} {a b S E : Int} (h : Window n a b S E A B) (G cap : Nat) (w : World) (hc : n ≤ cap) :
    Calls Tryf.prog 9 #[.slice (some ⟨G, 0, none⟩) n cap, .int .i64 a, .int .i64 b] w fun e w' => GaveInts G A (B - A) (cap - A) w e w' := by
  have hA := h.ab
  have hB := h.bn
  refine (h.call _ _ cap _ _ w (fun x W hx => sl_ints x A B G 0 n cap W hx (by omega) (by omega) (by omega))).mono fun e w' hh => ⟨if 0 < cap - A then A else 0, ?_, ?_, hh.2⟩
  · by_cases h0 : 0 < cap - A
    · exact .inl (if_pos h0)
    · exact .inr (by omega)
  · rw [hh.1, show ((A : Int)).toNat = A by omega, show ((B : Int) - (A : Int)).toNat = B - A by omega, add_zero_lit]

theorem sl_nil (x : Addr) (w : World) (h : w.cell? x = some (.slice none 0 0)) :
    (callFunc 20 #[rv 39 x 151, .int .i64 0, .int .i64 0]).run Tryf.prog w = .ok (.value (rv 39 ⟨w.heap.size, 0, none⟩ 151)) (w.alloc (.cells #[.slice none 0 0] 39)) := by
  obtain ⟨ti, hu, hd⟩ := under_ints
  rw [sl0]
  unfold ReflectMake.slice Rvalue.method
  simp [parts_ints, hu, hd, get_ints, h, ai, Rvalue.V.has, Rvalue.V.ro, Rvalue.V.readOnly, Rvalue.flagStickyRO, Rvalue.flagEmbedRO, fresh_ints]

theorem Window.nil {A B : Nat} {a b S E : Int} (h : Window 0 a b S E A B) (w : World) :
    Calls Tryf.prog 9 #[.slice none 0 0, .int .i64 a, .int .i64 b] w fun e w' => e = .returned (.slice none 0 0) ∧ Below w.heap.size w w' := by
  have hA := h.ab
  have hB := h.bn
  obtain rfl : B = 0 := by omega
  obtain rfl : A = 0 := by omega
  exact h.call none none 0 0 0 w (fun x W hx => sl_nil x W hx)

end Go.Proofs.YtjdnfgpnfmgcmaaFmt
