/-
  SequenceNode.String over identifier leaves. No condition but those in each statement.
-/
import Derived.Test.YtbmeeoehphdniaaJ
namespace Go.Proofs.Ytbmeeoehphdniaa
open Go.RowKit

def strVals (xs : List ByteArray) : List Value := xs.map .string

theorem strVals_at (xs : List ByteArray) (k : Nat) (x : ByteArray) (h : xs[k]? = some x) : (strVals xs)[k]? = some (.string x) := by
  simp [strVals, h]

set_option maxRecDepth 10000 in
set_option maxHeartbeats 2000000 in
theorem seq_str (P : Nat) (xs : List ByteArray) (w : World) (ht : tot xs ≤ 1048576) (hn : xs.length ≤ 131072) (hP : SeqAt w P xs) :
    Calls Try.prog 8 #[.pointer (some ⟨P, 0, none⟩)] w fun e w' => GaveStr (joined [59, 32] xs) w e w' := by
  obtain ⟨i0, hi, hz0, hz1, hz2⟩ := info_parts Try.info9
  obtain ⟨g, hg12, hL⟩ := hP.tail
  have hPl := hP.lt
  have hgl := hL.blk
  have HL := Lib.hid hL
  have hjl := joined_le [59, 32] xs
  have hjl2 : (joined [59, 32] xs).length ≤ 2097152 := by simp only [List.length_cons, List.length_nil] at hjl; omega
  clear hL hP hjl
  go_enter Try.func8, Try.ntmps8
  go_wp2_with (at_make; refine wpList_make_full _ rfl _ _ 36 rfl w.heap.size 9 i0 (.string ⟨#[]⟩) 1 Try.underlying36 hi hz0 hz1 .i64 .i64 _ _ xs.length rfl rfl rfl rfl ?c2 ?c3 ?c4 ?_)
  case c2 => rw [hz2]; omega
  case c3 => unfold maxLen; omega
  case c4 => exact Nat.le_refl _
  intro w1 hown1 hg1
  simp only [toList_madeCells_one] at hown1
  have HO := Lib.hid hown1
  have HB : Hid (Below w.heap.size w w1) := (Below.refl _ w).grown hg1 (Nat.le_refl _) (fun k e => by cases e)
  have HLT : Hid (w.heap.size < w1.heap.size) := (hown1.lt w.heap.size rfl).2
  have hg12' : w1.cell? ⟨P, 11, none⟩ = some (.slice (some ⟨g, 0, none⟩) xs.length xs.length) := (HB.out.cell (p := ⟨P, 11, none⟩) hPl).trans hg12
  clear hown1 hg1
  go_wp2
  go_loopw [17] (fun i wr => ∃ k : Nat, k ≤ xs.length ∧ i = .int .i64 k ∧ wr.ownsRow w.heap.size 9 1 (.slice (some ⟨w.heap.size, 0, none⟩) xs.length xs.length) xs.length (strVals (xs.take k) ++ List.replicate (xs.length - (strVals (xs.take k)).length) (.string ⟨#[]⟩)) ∧ Below w.heap.size w wr ∧ w.heap.size < wr.heap.size)
    (fun i _ => xs.length - (intOf i).toNat)
  case atStart => exact ⟨0, Nat.zero_le _, rfl, by simpa [strVals] using HO.out, HB.out, HLT.out⟩
  case round =>
    obtain ⟨k, hk, rfl, hown, hb, hlt0⟩ := hrel
    clear HO HB HLT hg12'
    have HBB := Lib.hid hb
    clear hb
    by_cases hlt : k < xs.length
    · obtain ⟨lb, hlb, hcell0, hval0⟩ := HL.out.get k hlt
      have hcell : wr.cell? ⟨g, k, none⟩ = some (.iface 44 (.pointer (some ⟨lb, 0, none⟩))) := (HBB.out.cell (p := ⟨g, k, none⟩) hgl).trans hcell0
      have hval : wr.cell? ⟨lb, 11, none⟩ = some (.string xs[k]) := (HBB.out.cell (p := ⟨lb, 11, none⟩) hlb).trans hval0
      have hlen : (strVals (xs.take k)).length = k := by simp [strVals]; omega
      have hck : wr.cell? ⟨w.heap.size, k, none⟩ = some (.string ⟨#[]⟩) := by
        rw [hown.cellAt k (by omega), List.getElem?_append_right (by omega), List.getElem?_replicate, if_pos (by omega)]
      have hfk : wr.frozen? ⟨w.heap.size, k, none⟩ = false := hown.frozenAt _
      obtain ⟨s, hs⟩ : ∃ s, s = xs[k] := ⟨_, rfl⟩
      rw [← hs] at hval
      have hst := (hown.stored k (.string s)).1
      have hnx : strVals (xs.take (k + 1)) = strVals (xs.take k) ++ [.string s] := by
        unfold strVals
        rw [List.take_succ_eq_append_getElem hlt, List.map_append, ← hs]
        rfl
      have hset := set_next (strVals (xs.take k)) (.string ⟨#[]⟩) (Value.string s) xs.length (by omega)
      rw [hlen] at hset
      rw [hlen, hset, ← hnx] at hst
      have HST := Lib.hid hst
      clear hst hset hnx hlen hs hown hcell0 hval0
      go_wp2_with fail
      refine (ident_str s lb _ hval).mono ?_
      rintro e w2 ⟨rfl, rfl⟩
      go_wp2
      go_roundw
      case rel => exact ⟨k + 1, by omega, by go_num, HST.out, HBB.out.setCell (p := ⟨w.heap.size, k, none⟩) (Nat.le_refl _) _, by simp [World.setCell]; omega⟩
      case measure => simp [intOf]; omega
    · have hkn : k = xs.length := by omega
      subst hkn
      rw [List.take_length] at hown
      have hcells : Hid (∀ (j : Nat) x, xs[j]? = some x → wr.cell? ⟨w.heap.size, 0 + j, none⟩ = some (.string x)) := fun j x hx => by
        have hj := (List.getElem?_eq_some_iff.1 hx).1
        rw [Nat.zero_add, hown.cellAt j (by omega), List.getElem?_append_left (by simpa [strVals] using hj)]
        exact strVals_at xs j x hx
      clear hown hg12
      go_wp2_with fail
      refine (Try.strings_Join w.heap.size 0 xs.length xs ⟨#[59, 32]⟩ _ (by exact hcells.out) hlt0 (by omega) (Nat.le_refl _) (by show (joined [59, 32] xs).length ≤ _; omega)).mono ?_
      rintro e w3 ⟨rfl, hb3⟩
      go_wp2
      go_ret
      exact ⟨rfl, HBB.out.trans (hb3.mono (by omega))⟩

end Go.Proofs.Ytbmeeoehphdniaa
