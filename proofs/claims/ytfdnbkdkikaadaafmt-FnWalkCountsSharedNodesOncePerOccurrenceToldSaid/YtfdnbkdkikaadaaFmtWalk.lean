/-
  ast.Walk over a chain of shared binary nodes: the counter's value behind it. No condition but those in each statement.
-/
import Derived.Test.YtfdnbkdkikaadaaFmtLaw
import Derived.LoopTactic
namespace Go.Proofs.YtfdnbkdkikaadaaFmt
open Go.RowKit

/-- k levels of a binary node whose two operands are the one node below; each node's block lies above M. -/
def Tree (M : Nat) (w : World) : Nat → Value → Prop
  | 0, v => ∃ b, v = .iface 43 (.pointer (some ⟨b, 0, none⟩))
  | k + 1, v => ∃ P v', v = .iface 57 (.pointer (some ⟨P, 0, none⟩)) ∧ M < P ∧ P < w.heap.size ∧ w.cell? ⟨P, 12, none⟩ = some v' ∧ w.cell? ⟨P, 13, none⟩ = some v' ∧ Tree M w k v'

theorem Tree.same {M : Nat} {w w' : World} (hs : w.heap.size ≤ w'.heap.size) (h : ∀ p : Addr, M < p.block → p.block < w.heap.size → w'.cell? p = w.cell? p) : ∀ (k : Nat) (v : Value), Tree M w k v → Tree M w' k v
  | 0, _, hv => hv
  | k + 1, _, ⟨P, v', h1, h2, h3, h4, h5, h6⟩ => ⟨P, v', h1, h2, Nat.lt_of_lt_of_le h3 hs, (h ⟨P, 12, none⟩ h2 h3).trans h4, (h ⟨P, 13, none⟩ h2 h3).trans h5, Tree.same hs h k v' h6⟩

theorem Tree.shape {M : Nat} {w : World} : ∀ (k : Nat) (v : Value), Tree M w k v → ∃ T p, v = .iface T (.pointer (some ⟨p, 0, none⟩))
  | 0, _, ⟨b, h1⟩ => ⟨43, b, h1⟩
  | _ + 1, _, ⟨P, _, h1, _⟩ => ⟨57, P, h1⟩

/-- The counter in block C holds x; nothing else has turned. -/
def Ctr (C : Nat) (x : Nat) (w : World) (e : Ending) (w' : World) : Prop :=
  e = .returned (.tuple #[]) ∧ w'.cell? ⟨C, 0, none⟩ = some (.int .i64 x) ∧ w'.frozen? ⟨C, 0, none⟩ = false ∧ (∀ p : Addr, p.block ≠ C → w'.cell? p = w.cell? p) ∧ Below C w w' ∧ w'.heap.size = w.heap.size

@[go_sem] theorem ta_43_63 (p : Addr) (w : World) : (Instr.typeAssert (.iface 43 (.pointer (some p))) 40 63 true).run Tryf.prog w = .ok (.tuple #[.pointer none, .bool false]) w := by kernel_rfl
@[go_sem] theorem ta_43_43 (p : Addr) (w : World) : (Instr.typeAssert (.iface 43 (.pointer (some p))) 40 43 true).run Tryf.prog w = .ok (.tuple #[.pointer (some p), .bool true]) w := by kernel_rfl
@[go_sem] theorem ta_57_63 (p : Addr) (w : World) : (Instr.typeAssert (.iface 57 (.pointer (some p))) 40 63 true).run Tryf.prog w = .ok (.tuple #[.pointer none, .bool false]) w := by kernel_rfl
@[go_sem] theorem ta_57_43 (p : Addr) (w : World) : (Instr.typeAssert (.iface 57 (.pointer (some p))) 40 43 true).run Tryf.prog w = .ok (.tuple #[.pointer none, .bool false]) w := by kernel_rfl
@[go_sem] theorem ta_57_64 (p : Addr) (w : World) : (Instr.typeAssert (.iface 57 (.pointer (some p))) 40 64 true).run Tryf.prog w = .ok (.tuple #[.pointer none, .bool false]) w := by kernel_rfl
@[go_sem] theorem ta_57_65 (p : Addr) (w : World) : (Instr.typeAssert (.iface 57 (.pointer (some p))) 40 65 true).run Tryf.prog w = .ok (.tuple #[.pointer none, .bool false]) w := by kernel_rfl
@[go_sem] theorem ta_57_66 (p : Addr) (w : World) : (Instr.typeAssert (.iface 57 (.pointer (some p))) 40 66 true).run Tryf.prog w = .ok (.tuple #[.pointer none, .bool false]) w := by kernel_rfl
@[go_sem] theorem ta_57_67 (p : Addr) (w : World) : (Instr.typeAssert (.iface 57 (.pointer (some p))) 40 67 true).run Tryf.prog w = .ok (.tuple #[.pointer none, .bool false]) w := by kernel_rfl
@[go_sem] theorem ta_57_68 (p : Addr) (w : World) : (Instr.typeAssert (.iface 57 (.pointer (some p))) 40 68 true).run Tryf.prog w = .ok (.tuple #[.pointer none, .bool false]) w := by kernel_rfl
@[go_sem] theorem ta_57_69 (p : Addr) (w : World) : (Instr.typeAssert (.iface 57 (.pointer (some p))) 40 69 true).run Tryf.prog w = .ok (.tuple #[.pointer none, .bool false]) w := by kernel_rfl
@[go_sem] theorem ta_57_70 (p : Addr) (w : World) : (Instr.typeAssert (.iface 57 (.pointer (some p))) 40 70 true).run Tryf.prog w = .ok (.tuple #[.pointer none, .bool false]) w := by kernel_rfl
@[go_sem] theorem ta_57_57 (p : Addr) (w : World) : (Instr.typeAssert (.iface 57 (.pointer (some p))) 40 57 true).run Tryf.prog w = .ok (.tuple #[.pointer (some p), .bool true]) w := by kernel_rfl

set_option maxRecDepth 100000 in
set_option maxHeartbeats 4000000 in
theorem walk_nil (v : Value) (ab ao : Nat) (w : World) (hA : w.cell? ⟨ab, ao, none⟩ = some .nilIface) : Calls Tryf.prog 4 #[.pointer (some ⟨ab, ao, none⟩), v] w fun e w' => e = .returned (.tuple #[]) ∧ w = w' := by
  go_enter Tryf.func4, Tryf.ntmps4
  go_wp2
  refine bodyPost_ret (results_none rfl _ _ _) rfl ?_
  exact ⟨rfl, rfl⟩

theorem ctr_set {C x : Nat} {w : World} {u : Value} (hC : w.cell? ⟨C, 0, none⟩ = some u) (hf : w.frozen? ⟨C, 0, none⟩ = false) : Ctr C x w (.returned (.tuple #[])) (w.setCell ⟨C, 0, none⟩ (.int .i64 x)) := by
  refine ⟨rfl, World.cell?_setCell_same _ _ _ hC, by rw [World.frozen?_setCell]; exact hf, fun p hp => World.cell?_setCell_other _ _ _ _ (fun e => hp (by rw [← e])), (Below.refl C w).setCell (p := ⟨C, 0, none⟩) (Nat.le_refl _) _, by simp [World.setCell]⟩

set_option maxRecDepth 100000 in
set_option maxHeartbeats 4000000 in
theorem walk_leaf (C b ab ao n : Nat) (w : World) (hA : w.cell? ⟨ab, ao, none⟩ = some (.iface 43 (.pointer (some ⟨b, 0, none⟩)))) (hC : w.cell? ⟨C, 0, none⟩ = some (.int .i64 n)) (hf : w.frozen? ⟨C, 0, none⟩ = false) (hn : n ≤ 1099511627776) :
    Calls Tryf.prog 4 #[.pointer (some ⟨ab, ao, none⟩), .iface 36 (.pointer (some ⟨C, 0, none⟩))] w fun e w' => Ctr C (n + 1) w e w' := by
  go_enter Tryf.func4, Tryf.ntmps4
  go_wp2
  go_end0
  exact ctr_set hC hf

theorem two_pow_step (k n : Nat) : n + (2 ^ (k + 1) - 1) + (2 ^ (k + 1) - 1) + 1 = n + (2 ^ (k + 1 + 1) - 1) := by
  have h1 : 2 ^ (k + 1 + 1) = 2 * 2 ^ (k + 1) := by rw [Nat.pow_succ]; omega
  have h2 : 1 ≤ 2 ^ (k + 1) := Nat.one_le_two_pow
  omega

set_option maxRecDepth 100000 in
set_option maxHeartbeats 4000000 in
theorem walk_tree (C M : Nat) (hCM : C ≤ M) : ∀ (k ab ao n : Nat) (v : Value) (w : World), ab ≠ C → w.cell? ⟨ab, ao, none⟩ = some v → Tree M w k v → w.cell? ⟨C, 0, none⟩ = some (.int .i64 n) → w.frozen? ⟨C, 0, none⟩ = false → n + 2 ^ (k + 1) ≤ 1099511627776 →
    Calls Tryf.prog 4 #[.pointer (some ⟨ab, ao, none⟩), .iface 36 (.pointer (some ⟨C, 0, none⟩))] w fun e w' => Ctr C (n + (2 ^ (k + 1) - 1)) w e w'
  | 0, ab, ao, n, v, w, hab, hA, hT, hC, hf, hn => by
    obtain ⟨b, rfl⟩ := hT
    exact walk_leaf C b ab ao n w hA hC hf (by omega)
  | k + 1, ab, ao, n, v, w, hab, hA, hT, hC, hf, hn => by
    obtain ⟨P, v', rfl, hMP, hP, h12, h13, hT'⟩ := hT
    have h2 : 2 ^ (k + 1 + 1) = 2 * 2 ^ (k + 1) := by rw [Nat.pow_succ]; omega
    have h3 : 1 ≤ 2 ^ (k + 1) := Nat.one_le_two_pow
    have hPC : P ≠ C := by omega
    have hb : n + (2 ^ (k + 1) - 1) + 2 ^ (k + 1) ≤ 1099511627776 := by omega
    have hb0 : n + 2 ^ (k + 1) ≤ 1099511627776 := by omega
    have ih1 := Lib.hid (walk_tree C M hCM k P 12 n v' w hPC h12 hT' hC hf hb0)
    have ih2 : Hid (∀ w1 : World, Ctr C (n + (2 ^ (k + 1) - 1)) w (.returned (.tuple #[])) w1 → Calls Tryf.prog 4 #[.pointer (some ⟨P, 13, none⟩), .iface 36 (.pointer (some ⟨C, 0, none⟩))] w1 fun e w' => Ctr C (n + (2 ^ (k + 1) - 1) + (2 ^ (k + 1) - 1)) w1 e w') := fun w1 h1 =>
      walk_tree C M hCM k P 13 (n + (2 ^ (k + 1) - 1)) v' w1 hPC ((h1.2.2.2.1 ⟨P, 13, none⟩ hPC).trans h13) (Tree.same (by rw [h1.2.2.2.2.2]; exact Nat.le_refl _) (fun p hp _ => h1.2.2.2.1 p (by omega)) k v' hT') h1.2.1 h1.2.2.1 hb
    obtain ⟨q, hq⟩ : ∃ q, q = 2 ^ (k + 1) - 1 := ⟨_, rfl⟩
    rw [← hq] at ih1 ih2
    have hst := two_pow_step k n
    rw [← hq] at hst
    have HST := Lib.hid hst
    have hnq : n + q + q ≤ 1099511627776 := by omega
    clear hT' h2 h3 hb hb0 h12 h13 hq hst hn
    go_enter Tryf.func4, Tryf.ntmps4
    go_wp2_with fail
    refine ih1.out.mono ?_
    rintro e w1 ⟨rfl, hc1⟩
    have HC1 : Hid (Ctr C (n + q) w (.returned (.tuple #[])) w1) := ⟨rfl, hc1⟩
    clear hc1
    go_wp2_with fail
    refine (ih2.out w1 HC1.out).mono ?_
    rintro e w2 ⟨rfl, c1, c2, c3, c4, c5⟩
    have hA2 : w2.cell? ⟨ab, ao, none⟩ = some (.iface 57 (.pointer (some ⟨P, 0, none⟩))) := (c3 ⟨ab, ao, none⟩ hab).trans ((HC1.out.2.2.2.1 ⟨ab, ao, none⟩ hab).trans hA)
    have H2 := Lib.hid (And.intro c3 (And.intro c4 c5))
    clear c3 c4 c5
    go_wp2
    go_end0
    have hs := ctr_set (x := n + q + q + 1) c1 c2
    have e : ((n + q + q + 1 : Nat) : Int) = (n : Int) + q + q + 1 := by push_cast; rfl
    rw [← HST.out, ← e]
    exact ⟨rfl, hs.2.1, hs.2.2.1, fun p hp => (hs.2.2.2.1 p hp).trans ((H2.out.1 p hp).trans (HC1.out.2.2.2.1 p hp)), (HC1.out.2.2.2.2.1.trans H2.out.2.1).trans hs.2.2.2.2.1, by rw [hs.2.2.2.2.2, H2.out.2.2, HC1.out.2.2.2.2.2]⟩

end Go.Proofs.YtfdnbkdkikaadaaFmt
