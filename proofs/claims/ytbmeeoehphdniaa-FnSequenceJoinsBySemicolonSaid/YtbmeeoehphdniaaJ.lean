/-
  Texts joined by a separator; bytes that a call has put together. No condition but those in each statement.
-/
import Derived.Test.YtbmeeoehphdniaaB
import Derived.Test.YtbmeeoehphdniaaShelf
import Derived.Lib.AppendStr
import Derived.Laws.IdiomStrings
namespace Go.Proofs.Ytbmeeoehphdniaa
open Go.RowKit

theorem Try.info5' : (Try.prog.info? 5).map (fun i => (i.zero, i.size, i.bytes)) = some (some (.int .u8 0), 1, 1) := by kernel_rfl

def joined (sep : List UInt8) (xs : List ByteArray) : List UInt8 := Lib.join (xs.map (·.data.toList)) sep

theorem joined_nil (sep : List UInt8) : joined sep [] = [] := rfl
theorem joined_snoc (sep : List UInt8) (xs : List ByteArray) (k : Nat) (h : k < xs.length) :
    joined sep (xs.take (k + 1)) = joined sep (xs.take k) ++ ((if k = 0 then [] else sep) ++ xs[k].data.toList) := by
  match xs, h with
  | x :: r, h =>
    match k, h with
    | 0, _ => simp [joined, Lib.join_one, Lib.join_nil]
    | m + 1, h =>
      have hm : m < r.length := by simpa using h
      unfold joined
      rw [List.take_succ_cons, List.take_succ_cons, List.map_cons, List.map_cons, Lib.join_cons, Lib.join_cons, List.map_take, List.map_take,
        Lib.joinTail_take_succ sep (r.map (·.data.toList)) m (r[m].data.toList) (by simp [List.getElem?_eq_getElem hm])]
      simp
theorem joined_len (sep : List UInt8) (xs : List ByteArray) : ∀ k, k ≤ xs.length → (joined sep (xs.take k)).length ≤ tot (xs.take k) + sep.length * k
  | 0, _ => by simp [joined, Lib.join_nil]
  | k + 1, h => by
    have hk : k < xs.length := h
    have ih := joined_len sep xs k (by omega)
    rw [joined_snoc sep xs k hk, tot_take xs k hk, List.length_append, List.length_append]
    have : (if k = 0 then ([] : List UInt8) else sep).length ≤ sep.length := by split <;> simp
    have e : xs[k].data.toList.length = xs[k].size := rfl
    rw [Nat.mul_succ]
    omega
theorem joined_le (sep : List UInt8) (xs : List ByteArray) : (joined sep xs).length ≤ tot xs + sep.length * xs.length := by
  have := joined_len sep xs xs.length (Nat.le_refl _)
  rwa [List.take_length] at this

theorem tot_take_le (xs : List ByteArray) (k : Nat) : tot (xs.take k) ≤ tot xs := by
  have : tot xs = tot (xs.take k) + tot (xs.drop k) := by
    unfold tot
    rw [← List.sum_append, ← List.map_append, List.take_append_drop]
  omega

/-- The bytes l stand in the row that v owns. -/
def Buf (w : World) (B : Nat) (v : Value) (l : List UInt8) : Prop := w.ownsRow B 5 1 v l.length (Lib.byteCells l)

theorem Buf.next {w : World} {B n m : Nat} {v : Value} {l l2 : List UInt8} {news : List Value} (h : w.ownsRow B 5 1 v (n + m) (Lib.byteCells l ++ news)) (hn : n = l.length) (hm : m = l2.length) (hq : news = Lib.byteCells l2) : Buf w B v (l ++ l2) := by
  subst hn hm hq
  unfold Buf
  rw [List.length_append, Lib.byteCells_append]
  exact h

def GaveStr (s : List UInt8) (w : World) (e : Ending) (w' : World) : Prop := e = .returned (.string (bs s)) ∧ Below w.heap.size w w'

theorem one1 (w : World) (x : Value) (t : TypeId) : ∀ j u, [x][j]? = some u → (w.alloc (.cells #[x] t)).cell? ((⟨w.heap.size, 0, none⟩ : Addr).add j) = some u := by
  intro j u hj
  match j, hj with
  | 0, hj => simp at hj; subst hj; simp [Addr.add]
theorem one2 (w : World) (x y : Value) (t : TypeId) : ∀ j u, [x, y][j]? = some u → (w.alloc (.cells #[x, y] t)).cell? ((⟨w.heap.size, 0, none⟩ : Addr).add j) = some u := by
  intro j u hj
  match j, hj with
  | 0, hj => simp at hj; subst hj; simp [Addr.add]
  | 1, hj => simp at hj; subst hj; simp [Addr.add]
theorem ocb1 (a : Int) : ∀ u ∈ [Value.int .u8 a], u.oneCell' = true := by
  intro u hu; simp at hu; subst hu; rfl
theorem ocb2 (a b : Int) : ∀ u ∈ [Value.int .u8 a, .int .u8 b], u.oneCell' = true := by
  intro u hu; simp at hu; rcases hu with rfl | rfl <;> rfl


theorem joined_app (sep : List UInt8) (x y : ByteArray) (xs ys : List ByteArray) : joined sep ((x :: xs) ++ (y :: ys)) = joined sep (x :: xs) ++ sep ++ joined sep (y :: ys) := by
  simp [joined, Lib.join_cons, Lib.joinTail]


end Go.Proofs.Ytbmeeoehphdniaa
