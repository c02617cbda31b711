/-
  The sequence node that zzSeq makes. No condition but those in each statement.
-/
import Derived.Test.YtbmeeoehphdniaaA
import Derived.Lib.UnsafeStr
namespace Go.Proofs.Ytbmeeoehphdniaa
open Go.RowKit

theorem Try.info47 : (Try.prog.info? 47).map (fun i => (i.zero, i.size, i.bytes)) = some (some .nilIface, 1, 16) := by kernel_rfl
theorem Try.info9 : (Try.prog.info? 9).map (fun i => (i.zero, i.size, i.bytes)) = some (some (.string ⟨#[]⟩), 1, 16) := by kernel_rfl

/-- Cell j of block g is an identifier whose value is the j-th text. -/
structure Leaves (w : World) (g : Nat) (xs : List ByteArray) : Prop where
  blk : g < w.heap.size
  get : ∀ j (h : j < xs.length), ∃ b, b < w.heap.size ∧ w.cell? ⟨g, j, none⟩ = some (.iface 44 (.pointer (some ⟨b, 0, none⟩))) ∧ w.cell? ⟨b, 11, none⟩ = some (.string xs[j])

theorem Leaves.below {w w' : World} {n g : Nat} {xs : List ByteArray} (h : Leaves w g xs) (hb : Below n w w') (hn : w.heap.size ≤ n) : Leaves w' g xs := by
  refine ⟨Nat.lt_of_lt_of_le h.blk hb.size, fun j hj => ?_⟩
  obtain ⟨b, h1, h2, h3⟩ := h.get j hj
  exact ⟨b, Nat.lt_of_lt_of_le h1 hb.size, (hb.cell (p := ⟨g, j, none⟩) (Nat.lt_of_lt_of_le h.blk hn)).trans h2, (hb.cell (p := ⟨b, 11, none⟩) (Nat.lt_of_lt_of_le h1 hn)).trans h3⟩

/-- What stands in the slice behind k rounds. -/
def LeafList (wr : World) (B : Nat) (xs : List ByteArray) (A : List Value) : Prop :=
  ∀ j (h : j < A.length), ∃ b, B < b ∧ b < wr.heap.size ∧ A[j] = .iface 44 (.pointer (some ⟨b, 0, none⟩)) ∧ ∀ x, xs[j]? = some x → wr.cell? ⟨b, 11, none⟩ = some (.string x)

theorem set_next {α : Type} (A : List α) (z u : α) (n : Nat) (h : A.length < n) : (A ++ List.replicate (n - A.length) z).set A.length u = (A ++ [u]) ++ List.replicate (n - (A ++ [u]).length) z := by
  rw [List.set_append_right _ _ (Nat.le_refl _), Nat.sub_self]
  obtain ⟨m, hm⟩ : ∃ m, n - A.length = m + 1 := ⟨n - A.length - 1, by omega⟩
  have hm2 : n - (A ++ [u]).length = m := by simp; omega
  rw [hm, hm2, List.replicate_succ, List.set_cons_zero]
  simp

/-- One round: a leaf is made and stored. -/
theorem leaf_step {w wr : World} {xs : List ByteArray} {A : List Value} {s : ByteArray} {cs : Array Value} (hlt : A.length < xs.length) (hs : xs[A.length]? = some s) (hcs : cs[11]? = some (.string s))
    (hown : wr.ownsRow w.heap.size 47 1 (.slice (some ⟨w.heap.size, 0, none⟩) xs.length xs.length) xs.length (A ++ List.replicate (xs.length - A.length) .nilIface)) (hll : LeafList wr w.heap.size xs A) (hb : Below w.heap.size w wr) (h0 : w.heap.size < wr.heap.size) :
    ((wr.setCell ⟨w.heap.size, A.length, none⟩ (.iface 44 (.pointer (some ⟨wr.heap.size, 0, none⟩)))).alloc (.cells cs 63)).ownsRow w.heap.size 47 1 (.slice (some ⟨w.heap.size, 0, none⟩) xs.length xs.length) xs.length
        ((A ++ [.iface 44 (.pointer (some ⟨wr.heap.size, 0, none⟩))]) ++ List.replicate (xs.length - (A ++ [Value.iface 44 (.pointer (some ⟨wr.heap.size, 0, none⟩))]).length) .nilIface) ∧
      LeafList ((wr.setCell ⟨w.heap.size, A.length, none⟩ (.iface 44 (.pointer (some ⟨wr.heap.size, 0, none⟩)))).alloc (.cells cs 63)) w.heap.size xs (A ++ [.iface 44 (.pointer (some ⟨wr.heap.size, 0, none⟩))]) ∧
      Below w.heap.size w ((wr.setCell ⟨w.heap.size, A.length, none⟩ (.iface 44 (.pointer (some ⟨wr.heap.size, 0, none⟩)))).alloc (.cells cs 63)) ∧
      w.heap.size < ((wr.setCell ⟨w.heap.size, A.length, none⟩ (.iface 44 (.pointer (some ⟨wr.heap.size, 0, none⟩)))).alloc (.cells cs 63)).heap.size := by
  have hsz : (wr.setCell ⟨w.heap.size, A.length, none⟩ (.iface 44 (.pointer (some ⟨wr.heap.size, 0, none⟩)))).heap.size = wr.heap.size := by simp [World.setCell]
  refine ⟨?_, ?_, ?_, ?_⟩
  · rw [← set_next A _ _ _ hlt]
    exact ((hown.stored _ _).1).alloc _
  · intro j hj
    rw [List.length_append, List.length_singleton] at hj
    by_cases hjA : j < A.length
    · obtain ⟨b, h1, h2, h3, h4⟩ := hll j hjA
      refine ⟨b, h1, by simp [hsz]; omega, by rw [List.getElem_append_left hjA]; exact h3, fun x hx => ?_⟩
      rw [← h4 x hx]
      have e1 : ((wr.setCell ⟨w.heap.size, A.length, none⟩ (.iface 44 (.pointer (some ⟨wr.heap.size, 0, none⟩)))).alloc (.cells cs 63)).cell? ⟨b, 11, none⟩ = (wr.setCell ⟨w.heap.size, A.length, none⟩ (.iface 44 (.pointer (some ⟨wr.heap.size, 0, none⟩)))).cell? ⟨b, 11, none⟩ :=
        (((Below.refl wr.heap.size (wr.setCell ⟨w.heap.size, A.length, none⟩ (.iface 44 (.pointer (some ⟨wr.heap.size, 0, none⟩))))).alloc (by rw [hsz]; exact Nat.le_refl _) (.cells cs 63)).cell (p := ⟨b, 11, none⟩) h2)
      rw [e1]
      exact World.cell?_setCell_other _ _ _ _ (by first | omega | simp)
    · have hje : j = A.length := by omega
      subst hje
      refine ⟨wr.heap.size, h0, by simp [hsz], by simp, fun x hx => ?_⟩
      rw [hs] at hx
      cases hx
      rw [← hsz]
      simp [go_sem, hcs]
  · exact (hb.setCell (p := ⟨w.heap.size, A.length, none⟩) (Nat.le_refl _) _).alloc (by rw [hsz]; omega) _
  · simp [hsz]; omega

theorem leaf_end {wr : World} {B : Nat} {xs : List ByteArray} {A : List Value} (hA : A.length = xs.length)
    (hown : wr.ownsRow B 47 1 (.slice (some ⟨B, 0, none⟩) xs.length xs.length) xs.length (A ++ List.replicate (xs.length - A.length) .nilIface)) (hll : LeafList wr B xs A) (h0 : B < wr.heap.size) : Leaves wr B xs := by
  refine ⟨h0, fun j hj => ?_⟩
  obtain ⟨b, _, h2, h3, h4⟩ := hll j (by omega)
  refine ⟨b, h2, ?_, h4 _ (List.getElem?_eq_getElem hj)⟩
  rw [hown.cellAt j (by omega), List.getElem?_append_left (by omega), List.getElem?_eq_getElem (by omega), h3]

@[go_sem] theorem meth_ident (a : Addr) (w : World) : (method 554 44 (.pointer (some a)) "String").run Try.prog w = .ok (65, .pointer (some a)) w := by kernel_rfl

set_option maxHeartbeats 400000 in
/-- IdentifierNode.String: its value. -/
theorem ident_str (s : ByteArray) (b : Nat) (w : World) (hc : w.cell? ⟨b, 11, none⟩ = some (.string s)) :
    Calls Try.prog 65 #[.pointer (some ⟨b, 0, none⟩)] w fun e w' => e = .returned (.string s) ∧ w = w' := by
  go_enter Try.func65, Try.ntmps65
  go_wp2
  go_ret
  exact ⟨rfl, rfl⟩

/-- The block of a sequence node. -/
structure SeqAt (w : World) (P : Nat) (xs : List ByteArray) : Prop where
  lt : P < w.heap.size
  tail : ∃ g, w.cell? ⟨P, 11, none⟩ = some (.slice (some ⟨g, 0, none⟩) xs.length xs.length) ∧ Leaves w g xs

theorem SeqAt.below {w w' : World} {n P : Nat} {xs : List ByteArray} (h : SeqAt w P xs) (hb : Below n w w') (hn : w.heap.size ≤ n) : SeqAt w' P xs := by
  obtain ⟨g, h4, h5⟩ := h.tail
  exact ⟨Nat.lt_of_lt_of_le h.lt hb.size, ⟨g, (hb.cell (p := ⟨P, 11, none⟩) (Nat.lt_of_lt_of_le h.lt hn)).trans h4, h5.below hb hn⟩⟩

theorem seqAt_new {w : World} {cs : Array Value} {t : TypeId} {g : Nat} {xs : List ByteArray} (h11 : cs[11]? = some (.slice (some ⟨g, 0, none⟩) xs.length xs.length)) (hL : Leaves w g xs) : SeqAt (w.alloc (.cells cs t)) w.heap.size xs := by
  have hb : Below w.heap.size w (w.alloc (.cells cs t)) := (Below.refl _ w).alloc (Nat.le_refl _) _
  exact ⟨by simp, ⟨g, by simp [go_sem, h11], hL.below hb (Nat.le_refl _)⟩⟩

def MadeSeq (w : World) (xs : List ByteArray) (e : Ending) (w' : World) : Prop := ∃ P, e = .returned (.pointer (some ⟨P, 0, none⟩)) ∧ SeqAt w' P xs ∧ Below w.heap.size w w'

set_option maxHeartbeats 1000000 in
/-- zzSeq. -/
theorem zz7 (a : Option Addr) (c b o : Nat) (xs : List ByteArray) (w : World) (hx : IsStrs w a b o xs) (hn : xs.length ≤ 131072) :
    Calls Try.prog 7 #[.slice a xs.length c] w fun e w' => MadeSeq w xs e w' := by
  obtain ⟨i0, hi, hz0, hz1, hz2⟩ := info_parts Try.info47
  have HX := Lib.hid hx
  clear hx
  go_enter Try.func7, Try.ntmps7
  go_wp2_with (at_make; refine wpList_make_full _ rfl _ _ 43 rfl w.heap.size 47 i0 .nilIface 1 Try.underlying43 hi hz0 hz1 .i64 .i64 _ _ xs.length rfl rfl rfl rfl ?c2 ?c3 ?c4 ?_)
  case c2 => rw [hz2]; omega
  case c3 => unfold maxLen; omega
  case c4 => exact Nat.le_refl _
  intro w1 hown1 hg1
  simp only [toList_madeCells_one] at hown1
  have HO := Lib.hid hown1
  have HB : Hid (Below w.heap.size w w1) := (Below.refl _ w).grown hg1 (Nat.le_refl _) (fun k e => by cases e)
  have HLT : Hid (w.heap.size < w1.heap.size) := (hown1.lt w.heap.size rfl).2
  clear hown1 hg1
  go_wp2
  go_loopw [4] (fun i wr => ∃ A : List Value, A.length ≤ xs.length ∧ i = .int .i64 A.length ∧ wr.ownsRow w.heap.size 47 1 (.slice (some ⟨w.heap.size, 0, none⟩) xs.length xs.length) xs.length (A ++ List.replicate (xs.length - A.length) .nilIface) ∧ LeafList wr w.heap.size xs A ∧ Below w.heap.size w wr ∧ w.heap.size < wr.heap.size)
    (fun i _ => xs.length - (intOf i).toNat)
  case atStart => exact ⟨[], Nat.zero_le _, rfl, by simpa using HO.out, fun j h => by simp at h, HB.out, HLT.out⟩
  case round =>
    obtain ⟨A, hk, rfl, hown, hll, hb, hlt0⟩ := hrel
    clear HO HB HLT
    have HLL := Lib.hid hll
    have HBB := Lib.hid hb
    clear hll hb
    by_cases hlt : A.length < xs.length
    · have hcell := (HX.out.below HBB.out (Nat.le_refl _)).at hlt
      obtain ⟨ha, hbw⟩ := HX.out.ad (by omega)
      subst ha
      obtain ⟨s, hs⟩ : ∃ s, s = xs[A.length] := ⟨_, rfl⟩
      have hs2 : Hid (xs[A.length]? = some s) := by rw [hs]; exact List.getElem?_eq_getElem hlt
      rw [← hs] at hcell
      clear hs
      have hck : wr.cell? ⟨w.heap.size, A.length, none⟩ = some .nilIface := by
        rw [hown.cellAt A.length (by omega), List.getElem?_append_right (Nat.le_refl _), Nat.sub_self, List.getElem?_replicate]
        simp; omega
      have hfk : wr.frozen? ⟨w.heap.size, A.length, none⟩ = false := hown.frozenAt _
      have hbl : b < wr.heap.size := by omega
      have HOWN := Lib.hid hown
      clear hown
      go_wp2
      go_roundw
      case rel =>
        have R := leaf_step (cs := #[.int .i64 0, .int .i64 0, .nilIface, .int .u64 0, .pointer none, .pointer none, .bool false, .bool false, .bool false, .bool false, .bool false, .string s]) hlt hs2.out rfl HOWN.out HLL.out HBB.out hlt0
        exact ⟨A ++ [.iface 44 (.pointer (some ⟨wr.heap.size, 0, none⟩))], by simp; omega, by simp, R⟩
      case measure => simp [intOf]; omega
    · have hA : A.length = xs.length := by omega
      have HL := Lib.hid (leaf_end hA hown HLL.out hlt0)
      clear hown
      go_wp2
      go_ret
      exact ⟨_, rfl, seqAt_new rfl HL.out, HBB.out.alloc (by omega) _⟩

end Go.Proofs.Ytbmeeoehphdniaa
