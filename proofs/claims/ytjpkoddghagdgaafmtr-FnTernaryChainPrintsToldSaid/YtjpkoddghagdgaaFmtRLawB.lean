/-
  The parameters' types of every law of this seat can be read. No condition.
-/
import Derived.Test.YtjpkoddghagdgaaFmtRLaw
import Derived.Test.YtjpkoddghagdgaaFmtRFactsB
import Derived.Test.YtjpkoddghagdgaaFmtRStr
namespace Go.Proofs.YtjpkoddghagdgaaFmtR
open Go.Extern.Stop Go.Stop Go.Extern

theorem read_3 : Tryf.prog.readableRec 3 = true ∧ 3 < Tryf.prog.types.size := ⟨by kernel_rfl, of_decide_eq_true (by kernel_rfl)⟩
theorem read_4 : Tryf.prog.readableRec 4 = true ∧ 4 < Tryf.prog.types.size := ⟨by kernel_rfl, of_decide_eq_true (by kernel_rfl)⟩
theorem read_9 : Tryf.prog.readableRec 9 = true ∧ 9 < Tryf.prog.types.size := ⟨by kernel_rfl, of_decide_eq_true (by kernel_rfl)⟩
theorem read_57 : Tryf.prog.readableRec 57 = true ∧ 57 < Tryf.prog.types.size := ⟨by kernel_rfl, of_decide_eq_true (by kernel_rfl)⟩

theorem reads_all (ts : List TypeId) (h : ts.all (fun t => t == 3 || t == 4 || t == 9 || t == 57) = true) : ∀ t ∈ ts, Tryf.prog.readableRec t = true ∧ t < Tryf.prog.types.size := by
  intro t ht
  have := List.all_eq_true.1 h t ht
  simp only [Bool.or_eq_true, beq_iff_eq] at this
  rcases this with ((rfl | rfl) | rfl) | rfl
  · exact read_3
  · exact read_4
  · exact read_9
  · exact read_57

end Go.Proofs.YtjpkoddghagdgaaFmtR
