/-
  What package reflect's entries answer at a string and at slices, in this seat's program. No condition but those in each statement.
-/
import Derived.Test.YtjdnfgpnfmgcmaaFmtProg
import Derived.WalkKit
namespace Go.Proofs.YtjdnfgpnfmgcmaaFmt
open Go.RowKit Go.Extern
set_option maxRecDepth 100000
abbrev rv (t : TypeId) (a : Addr) (f : Int) : Value := .agg #[.pointer (some ⟨0, t, none⟩), .pointer (some a), .int .u64 f]
@[go_sem] theorem vo_str (s : ByteArray) (w : World) : (callFunc 11 #[.iface 9 (.string s)]).run Tryf.prog w = .ok (.value (rv 9 ⟨w.heap.size, 0, none⟩ 152)) (w.alloc (.cells #[.string s] 9)) := by kernel_rfl
@[go_sem] theorem vo_ints (p : Option Addr) (n c : Nat) (w : World) : (callFunc 11 #[.iface 39 (.slice p n c)]).run Tryf.prog w = .ok (.value (rv 39 ⟨w.heap.size, 0, none⟩ 151)) (w.alloc (.cells #[.slice p n c] 39)) := by kernel_rfl
@[go_sem] theorem kd_str (a : Addr) (w : World) : (callFunc 12 #[rv 9 a 152]).run Tryf.prog w = .ok (.value (.int .u64 24)) w := by kernel_rfl
@[go_sem] theorem kd_ints (a : Addr) (w : World) : (callFunc 12 #[rv 39 a 151]).run Tryf.prog w = .ok (.value (.int .u64 23)) w := by kernel_rfl
@[go_sem] theorem iv_str (a : Addr) (w : World) : (callFunc 21 #[rv 9 a 152]).run Tryf.prog w = .ok (.value (.bool true)) w := by kernel_rfl
theorem ln_str0 (a : Addr) (w : World) : (callFunc 13 #[rv 9 a 152]).run Tryf.prog w = (load a >>= fun v => Builtin.len_ #[9] 0 #[v] >>= fun x => pure (Next.value x)).run Tryf.prog w := by kernel_rfl
theorem if_str0 (a : Addr) (w : World) : (callFunc 22 #[rv 9 a 152]).run Tryf.prog w = (load a >>= fun v => pure (Next.value (.iface 9 v))).run Tryf.prog w := by kernel_rfl
theorem len_s (s : ByteArray) (w : World) : (Builtin.len_ #[9] 0 #[.string s]).run Tryf.prog w = .ok (.int .i64 s.size) w := by kernel_rfl
theorem len_i (p : Option Addr) (n c : Nat) (w : World) : (Builtin.len_ #[39] 0 #[.slice p n c]).run Tryf.prog w = .ok (.int .i64 n) w := by kernel_rfl
theorem ln_ints0 (a : Addr) (w : World) : (callFunc 13 #[rv 39 a 151]).run Tryf.prog w = (load a >>= fun v => Builtin.len_ #[39] 0 #[v] >>= fun x => pure (Next.value x)).run Tryf.prog w := by kernel_rfl
theorem if_ints0 (a : Addr) (w : World) : (callFunc 22 #[rv 39 a 151]).run Tryf.prog w = (load a >>= fun v => pure (Next.value (.iface 39 v))).run Tryf.prog w := by kernel_rfl
@[go_sem] theorem ta_s (s : ByteArray) (w : World) : (Instr.typeAssert (.iface 9 (.string s)) 20 9 false).run Tryf.prog w = .ok (.string s) w := by kernel_rfl
@[go_sem] theorem ta_i (p : Option Addr) (n c : Nat) (w : World) : (Instr.typeAssert (.iface 39 (.slice p n c)) 20 39 false).run Tryf.prog w = .ok (.slice p n c) w := by kernel_rfl
theorem if_str (a : Addr) (v : Value) (w : World) (h : w.cell? a = some v) : (callFunc 22 #[rv 9 a 152]).run Tryf.prog w = .ok (.value (.iface 9 v)) w := by
  rw [if_str0]
  simp [h]
theorem ln_str (a : Addr) (s : ByteArray) (w : World) (h : w.cell? a = some (.string s)) : (callFunc 13 #[rv 9 a 152]).run Tryf.prog w = .ok (.value (.int .i64 s.size)) w := by
  rw [ln_str0]
  simp [h, len_s]
theorem if_ints (a : Addr) (v : Value) (w : World) (h : w.cell? a = some v) : (callFunc 22 #[rv 39 a 151]).run Tryf.prog w = .ok (.value (.iface 39 v)) w := by
  rw [if_ints0]
  simp [h]
theorem ln_ints (a : Addr) (p : Option Addr) (n c : Nat) (w : World) (h : w.cell? a = some (.slice p n c)) : (callFunc 13 #[rv 39 a 151]).run Tryf.prog w = .ok (.value (.int .i64 n)) w := by
  rw [ln_ints0]
  simp [h, len_i]
@[go_sem] theorem iv_ints (a : Addr) (w : World) : (callFunc 21 #[rv 39 a 151]).run Tryf.prog w = .ok (.value (.bool true)) w := by kernel_rfl
@[go_sem] theorem vo_byts (p : Option Addr) (n c : Nat) (w : World) : (callFunc 11 #[.iface 35 (.slice p n c)]).run Tryf.prog w = .ok (.value (rv 35 ⟨w.heap.size, 0, none⟩ 151)) (w.alloc (.cells #[.slice p n c] 35)) := by kernel_rfl
@[go_sem] theorem kd_byts (a : Addr) (w : World) : (callFunc 12 #[rv 35 a 151]).run Tryf.prog w = .ok (.value (.int .u64 23)) w := by kernel_rfl
@[go_sem] theorem iv_byts (a : Addr) (w : World) : (callFunc 21 #[rv 35 a 151]).run Tryf.prog w = .ok (.value (.bool true)) w := by kernel_rfl
theorem len_b (p : Option Addr) (n c : Nat) (w : World) : (Builtin.len_ #[35] 0 #[.slice p n c]).run Tryf.prog w = .ok (.int .i64 n) w := by kernel_rfl
theorem ln_byts0 (a : Addr) (w : World) : (callFunc 13 #[rv 35 a 151]).run Tryf.prog w = (load a >>= fun v => Builtin.len_ #[35] 0 #[v] >>= fun x => pure (Next.value x)).run Tryf.prog w := by kernel_rfl
theorem if_byts0 (a : Addr) (w : World) : (callFunc 22 #[rv 35 a 151]).run Tryf.prog w = (load a >>= fun v => pure (Next.value (.iface 35 v))).run Tryf.prog w := by kernel_rfl
@[go_sem] theorem ta_b (p : Option Addr) (n c : Nat) (w : World) : (Instr.typeAssert (.iface 35 (.slice p n c)) 20 35 false).run Tryf.prog w = .ok (.slice p n c) w := by kernel_rfl
theorem if_byts (a : Addr) (v : Value) (w : World) (h : w.cell? a = some v) : (callFunc 22 #[rv 35 a 151]).run Tryf.prog w = .ok (.value (.iface 35 v)) w := by
  rw [if_byts0]
  simp [h]
theorem ln_byts (a : Addr) (p : Option Addr) (n c : Nat) (w : World) (h : w.cell? a = some (.slice p n c)) : (callFunc 13 #[rv 35 a 151]).run Tryf.prog w = .ok (.value (.int .i64 n)) w := by
  rw [ln_byts0]
  simp [h, len_b]
theorem sl0 (t : TypeId) (a : Addr) (f i j : Int) (w : World) : (callFunc 20 #[rv t a f, .int .i64 i, .int .i64 j]).run Tryf.prog w = (ReflectMake.slice #[rv t a f, .int .i64 i, .int .i64 j] >>= fun x => pure (Next.value x)).run Tryf.prog w := by kernel_rfl
theorem parts_s (a : Addr) (w : World) : (Rvalue.parts (rv 9 a 152)).run Tryf.prog w = .ok (some ⟨9, a, 152⟩) w := by kernel_rfl
theorem under_9 : ∃ i : TypeInfo, (∀ w, (Rtype.under 9).run Tryf.prog w = .ok (9, i) w) ∧ i.desc = .string := by
  refine ⟨(Tryf.prog.info? 9).getD default, fun w => by kernel_rfl, by kernel_rfl⟩
theorem mk_s (a : Addr) (w : World) : (Rvalue.mk 9 a 0).run Tryf.prog w = .ok (rv 9 a 152) w := by kernel_rfl
theorem get_9 (a : Addr) (w : World) : ((⟨9, a, 152⟩ : Rvalue.V).get).run Tryf.prog w = (load a).run Tryf.prog w := by kernel_rfl
theorem nv_9 (s : ByteArray) (w : World) : (newVar 9 (.string s)).run Tryf.prog w = .ok ⟨w.heap.size, 0, none⟩ (w.alloc (.cells #[.string s] 9)) := by kernel_rfl
theorem ai (k : IntKind) (i : Int) (w : World) : (asInt (.int k i)).run Tryf.prog w = .ok i w := by kernel_rfl

theorem sl_str (a : Addr) (i j : Int) (s : ByteArray) (w : World) (h : w.cell? a = some (.string s)) (h1 : 0 ≤ i) (h2 : i ≤ j) (h3 : j ≤ s.size) :
    (callFunc 20 #[rv 9 a 152, .int .i64 i, .int .i64 j]).run Tryf.prog w = .ok (.value (rv 9 ⟨w.heap.size, 0, none⟩ 152)) (w.alloc (.cells #[.string (s.extract i.toNat j.toNat)] 9)) := by
  obtain ⟨ti, hu, hd⟩ := under_9
  rw [sl0]
  have g1 : ¬ i < 0 := by omega
  have g2 : ¬ j < i := by omega
  have g3 : ¬ (s.size : Int) < j := by omega
  unfold ReflectMake.slice Rvalue.method
  simp [parts_s, hu, hd, get_9, h, ai, nv_9, mk_s, g1, g2, g3, Rvalue.V.has, Rvalue.flagAddr]
theorem parts_ints (a : Addr) (w : World) : (Rvalue.parts (rv 39 a 151)).run Tryf.prog w = .ok (some ⟨39, a, 151⟩) w := by kernel_rfl
theorem under_ints : ∃ i : TypeInfo, (∀ w, (Rtype.under 39).run Tryf.prog w = .ok (39, i) w) ∧ i.desc = .slice 3 := by
  refine ⟨(Tryf.prog.info? 39).getD default, fun w => by kernel_rfl, by kernel_rfl⟩
theorem fresh_ints (p : Option Addr) (n c : Nat) (w : World) : (Rvalue.fresh 39 (.slice p n c)).run Tryf.prog w = .ok (rv 39 ⟨w.heap.size, 0, none⟩ 151) (w.alloc (.cells #[.slice p n c] 39)) := by kernel_rfl
theorem get_ints (a : Addr) (w : World) : ((⟨39, a, 151⟩ : Rvalue.V).get).run Tryf.prog w = (load a).run Tryf.prog w := by kernel_rfl
theorem sl_ints (a : Addr) (i j : Int) (b o n c : Nat) (w : World) (h : w.cell? a = some (.slice (some ⟨b, o, none⟩) n c)) (h1 : 0 ≤ i) (h2 : i ≤ j) (h3 : j ≤ c) :
    (callFunc 20 #[rv 39 a 151, .int .i64 i, .int .i64 j]).run Tryf.prog w = .ok (.value (rv 39 ⟨w.heap.size, 0, none⟩ 151)) (w.alloc (.cells #[.slice (some (Addr.add ⟨b, o, none⟩ (if 0 < c - i.toNat then i.toNat else 0))) (j - i).toNat (c - i.toNat)] 39)) := by
  obtain ⟨ti, hu, hd⟩ := under_ints
  rw [sl0]
  have g1 : ¬ i < 0 := by omega
  have g2 : ¬ j < i := by omega
  have g3 : ¬ (c : Int) < j := by omega
  unfold ReflectMake.slice Rvalue.method
  simp [parts_ints, hu, hd, get_ints, h, ai, g1, g2, g3, Rvalue.V.has, Rvalue.V.ro, Rvalue.V.readOnly, Rvalue.flagStickyRO, Rvalue.flagEmbedRO, fresh_ints]
theorem parts_byts (a : Addr) (w : World) : (Rvalue.parts (rv 35 a 151)).run Tryf.prog w = .ok (some ⟨35, a, 151⟩) w := by kernel_rfl
theorem under_byts : ∃ i : TypeInfo, (∀ w, (Rtype.under 35).run Tryf.prog w = .ok (35, i) w) ∧ i.desc = .slice 5 := by
  refine ⟨(Tryf.prog.info? 35).getD default, fun w => by kernel_rfl, by kernel_rfl⟩
theorem fresh_byts (p : Option Addr) (n c : Nat) (w : World) : (Rvalue.fresh 35 (.slice p n c)).run Tryf.prog w = .ok (rv 35 ⟨w.heap.size, 0, none⟩ 151) (w.alloc (.cells #[.slice p n c] 35)) := by kernel_rfl
theorem get_byts (a : Addr) (w : World) : ((⟨35, a, 151⟩ : Rvalue.V).get).run Tryf.prog w = (load a).run Tryf.prog w := by kernel_rfl
theorem sl_byts (a : Addr) (i j : Int) (b o n c : Nat) (w : World) (h : w.cell? a = some (.slice (some ⟨b, o, none⟩) n c)) (h1 : 0 ≤ i) (h2 : i ≤ j) (h3 : j ≤ c) :
    (callFunc 20 #[rv 35 a 151, .int .i64 i, .int .i64 j]).run Tryf.prog w = .ok (.value (rv 35 ⟨w.heap.size, 0, none⟩ 151)) (w.alloc (.cells #[.slice (some (Addr.add ⟨b, o, none⟩ (if 0 < c - i.toNat then i.toNat else 0))) (j - i).toNat (c - i.toNat)] 35)) := by
  obtain ⟨ti, hu, hd⟩ := under_byts
  rw [sl0]
  have g1 : ¬ i < 0 := by omega
  have g2 : ¬ j < i := by omega
  have g3 : ¬ (c : Int) < j := by omega
  unfold ReflectMake.slice Rvalue.method
  simp [parts_byts, hu, hd, get_byts, h, ai, g1, g2, g3, Rvalue.V.has, Rvalue.V.ro, Rvalue.V.readOnly, Rvalue.flagStickyRO, Rvalue.flagEmbedRO, fresh_byts]
end Go.Proofs.YtjdnfgpnfmgcmaaFmt
