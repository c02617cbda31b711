/-
  What fmt.Sprintf gives at the formats of the claims, operands strings: the told text. No condition but lengths below 2^62.
-/
import Derived.Test.YtjpkoddghagdgaaFmtRFmt
import Derived.WalkKit
import Derived.WalkSpells
import Derived.Handy
import Derived.Lib.Hide
import Derived.Stop.Texts
import Derived.Stop.Told
import Derived.Stop.JoinedTold
import Derived.Stop.FmtTextKit
import Derived.Stop.FmtTextVerbs
import Derived.Stop.FmtQuoteTie
namespace Go.Proofs.YtjpkoddghagdgaaFmtR
open Go.RowKit Go.Extern.Stop Go.Stop Go.Extern

def bs (l : List UInt8) : ByteArray := ⟨l.toArray⟩

theorem bs_list (l : List UInt8) : (bs l).data.toList = l := rfl
theorem list_bs (s : ByteArray) : bs s.data.toList = s := rfl
theorem bs_size (l : List UInt8) : (bs l).size = l.length := by simp [bs, ByteArray.size]
theorem bs_inj {a b : List UInt8} (h : bs a = bs b) : a = b := by
  have := congrArg (fun x => x.data.toList) h
  simpa [bs] using this

theorem told_text (F : Interp) {reading : List (List UInt8)} {s : List UInt8} (h : FmtText.text "fmt.Sprintf" reading = some s) (hl : s.length < 2 ^ 63) :
    FmtStop.textOf (F.told "fmt.Sprintf" reading 0) = bs s := by
  have h1 := told_string F h hl
  have h2 : (FmtStop.textOf (F.told "fmt.Sprintf" reading 0)).data.toList = s := by rw [Kit.textOf_list]; exact h1
  rw [← list_bs (FmtStop.textOf _), h2]

theorem op_str (s : List UInt8) (h : s.length < 2 ^ 62) : FmtText.operand Tryf.shape9 (FmtStop.pack s) = some (.str "string".toUTF8.data.toList s) :=
  FmtText.operand_str_at (sh := Tryf.shape9) rfl (by rfl) s (by omega)

theorem text_hash (s : List UInt8) (h : s.length < 2 ^ 62) : FmtText.text "fmt.Sprintf" [[35, 37, 115], Tryf.shape9, FmtStop.pack s] = some (35 :: s) := by
  rw [FmtText.text_sprintf_glued Tryf.parse0 (FmtText.operands_cons (op_str s h) FmtText.operands_nil)]
  simp [FmtText.render, FmtText.printArg_s_str]
theorem text_q (s : List UInt8) (h : s.length < 2 ^ 62) : FmtText.text "fmt.Sprintf" [[37, 113], Tryf.shape9, FmtStop.pack s] = some (FmtText.quote false s) := by
  rw [FmtText.text_sprintf_glued Tryf.parse1 (FmtText.operands_cons (op_str s h) FmtText.operands_nil)]
  simp [FmtText.render, FmtText.printArg_q_str]
theorem text_sl0 (s : List UInt8) (h : s.length < 2 ^ 62) : FmtText.text "fmt.Sprintf" [[37, 115, 91, 58, 93], Tryf.shape9, FmtStop.pack s] = some (s ++ [91, 58, 93]) := by
  rw [FmtText.text_sprintf_glued Tryf.parse2 (FmtText.operands_cons (op_str s h) FmtText.operands_nil)]
  simp [FmtText.render, FmtText.printArg_s_str]
theorem text_sl1 (s t : List UInt8) (h : s.length < 2 ^ 62) (ht : t.length < 2 ^ 62) : FmtText.text "fmt.Sprintf" [[37, 115, 91, 58, 37, 115, 93], Tryf.shape9, FmtStop.pack s, Tryf.shape9, FmtStop.pack t] = some (s ++ [91, 58] ++ t ++ [93]) := by
  rw [FmtText.text_sprintf_glued Tryf.parse3 (FmtText.operands_cons (op_str s h) (FmtText.operands_cons (op_str t ht) FmtText.operands_nil))]
  simp [FmtText.render, FmtText.printArg_s_str]
theorem text_sl2 (s t : List UInt8) (h : s.length < 2 ^ 62) (ht : t.length < 2 ^ 62) : FmtText.text "fmt.Sprintf" [[37, 115, 91, 37, 115, 58, 93], Tryf.shape9, FmtStop.pack s, Tryf.shape9, FmtStop.pack t] = some (s ++ [91] ++ t ++ [58, 93]) := by
  rw [FmtText.text_sprintf_glued Tryf.parse4 (FmtText.operands_cons (op_str s h) (FmtText.operands_cons (op_str t ht) FmtText.operands_nil))]
  simp [FmtText.render, FmtText.printArg_s_str]
theorem text_sl3 (s t u : List UInt8) (h : s.length < 2 ^ 62) (ht : t.length < 2 ^ 62) (hu : u.length < 2 ^ 62) : FmtText.text "fmt.Sprintf" [[37, 115, 91, 37, 115, 58, 37, 115, 93], Tryf.shape9, FmtStop.pack s, Tryf.shape9, FmtStop.pack t, Tryf.shape9, FmtStop.pack u] = some (s ++ [91] ++ t ++ [58] ++ u ++ [93]) := by
  rw [FmtText.text_sprintf_glued Tryf.parse5 (FmtText.operands_cons (op_str s h) (FmtText.operands_cons (op_str t ht) (FmtText.operands_cons (op_str u hu) FmtText.operands_nil)))]
  simp [FmtText.render, FmtText.printArg_s_str]
theorem text_call (s t : List UInt8) (h : s.length < 2 ^ 62) (ht : t.length < 2 ^ 62) : FmtText.text "fmt.Sprintf" [[37, 115, 40, 37, 115, 41], Tryf.shape9, FmtStop.pack s, Tryf.shape9, FmtStop.pack t] = some (s ++ [40] ++ t ++ [41]) := by
  rw [FmtText.text_sprintf_glued Tryf.parse6 (FmtText.operands_cons (op_str s h) (FmtText.operands_cons (op_str t ht) FmtText.operands_nil))]
  simp [FmtText.render, FmtText.printArg_s_str]
theorem text_tern (s t u : List UInt8) (h : s.length < 2 ^ 62) (ht : t.length < 2 ^ 62) (hu : u.length < 2 ^ 62) : FmtText.text "fmt.Sprintf" [[37, 115, 32, 63, 32, 37, 115, 32, 58, 32, 37, 115], Tryf.shape9, FmtStop.pack s, Tryf.shape9, FmtStop.pack t, Tryf.shape9, FmtStop.pack u] = some (s ++ [32, 63, 32] ++ t ++ [32, 58, 32] ++ u) := by
  rw [FmtText.text_sprintf_glued Tryf.parse7 (FmtText.operands_cons (op_str s h) (FmtText.operands_cons (op_str t ht) (FmtText.operands_cons (op_str u hu) FmtText.operands_nil)))]
  simp [FmtText.render, FmtText.printArg_s_str]
theorem text_paren (s : List UInt8) (h : s.length < 2 ^ 62) : FmtText.text "fmt.Sprintf" [[40, 37, 115, 41], Tryf.shape9, FmtStop.pack s] = some ([40] ++ s ++ [41]) := by
  rw [FmtText.text_sprintf_glued Tryf.parse8 (FmtText.operands_cons (op_str s h) FmtText.operands_nil)]
  simp [FmtText.render, FmtText.printArg_s_str]

end Go.Proofs.YtjpkoddghagdgaaFmtR
