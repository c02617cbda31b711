/-
  The walk of FnSliceStringSplitsAtEveryCut, over what runtime.Slice answers. No condition but those in each statement.
-/
import Derived.Test.YtjdnfgpnfmgcmaaFmtZs
import Derived.Laws.IdiomStrings
namespace Go.Proofs.YtjdnfgpnfmgcmaaFmt
open Go.RowKit

def GaveRow (B c n c' : Nat) (w : World) (e : Ending) (w' : World) : Prop := ∃ d, (d = c ∨ n = 0) ∧ e = .returned (.slice (some ⟨B, d, none⟩) n c') ∧ Below w.heap.size w w'

/-- What runtime.Slice answers at the cut k: c is the place. -/
structure Cuts (s : ByteArray) (k : Int) (c : Nat) : Prop where
  le : c ≤ s.size
  sl : ∀ w, Calls Tryf.prog 6 #[.string s, .int .i64 0, .int .i64 k] w fun e w' => e = .returned (.string (s.extract 0 c)) ∧ Below w.heap.size w w'
  sr : ∀ w, Calls Tryf.prog 6 #[.string s, .int .i64 k, .int .i64 s.size] w fun e w' => e = .returned (.string (s.extract c s.size)) ∧ Below w.heap.size w w'
  bl : ∀ (B cap : Nat) w, s.size ≤ cap → Calls Tryf.prog 7 #[.slice (some ⟨B, 0, none⟩) s.size cap, .int .i64 0, .int .i64 k] w fun e w' => GaveRow B 0 c cap w e w'
  br : ∀ (B cap : Nat) w, s.size ≤ cap → Calls Tryf.prog 7 #[.slice (some ⟨B, 0, none⟩) s.size cap, .int .i64 k, .int .i64 s.size] w fun e w' => GaveRow B c (s.size - c) (cap - c) w e w'

theorem split_eq (s : ByteArray) (c : Nat) (h : c ≤ s.size) : s.extract 0 c ++ s.extract c s.size = s := by
  rw [ByteArray.extract_append_extract]
  simp [h]

theorem extract_at (s : ByteArray) (a b j : Nat) (h1 : a ≤ b) (h2 : b ≤ s.size) (h : j < (s.extract a b).data.toList.length) : ∃ h3 : a + j < s.data.size, (s.extract a b).data.toList[j] = s.data[a + j] := by
  have hl : (s.extract a b).data.toList.length = b - a := by
    have : (s.extract a b).size = b - a := by rw [ByteArray.size_extract]; omega
    exact this
  have hs : s.data.size = s.size := rfl
  refine ⟨by omega, ?_⟩
  simp [ByteArray.data_extract]

theorem add_lit (B d j : Nat) : (⟨B, d, none⟩ : Addr).add j = ⟨B, d + j, none⟩ := by
  unfold Addr.add
  split <;> simp_all

theorem conv_part (s : ByteArray) (W : World) (B d a b n cap : Nat) (hrow : ∀ j (hj : j < s.data.size), W.cell? ⟨B, j, none⟩ = some (.int .u8 (s.data[j].toNat : Int))) (hab : a ≤ b) (hb : b ≤ s.size) (hn : n = b - a) (hd : d = a ∨ n = 0) :
    (convert 35 9 (.slice (some ⟨B, d, none⟩) n cap)).run Tryf.prog W = .ok (.string (s.extract a b)) W := by
  have hl : (s.extract a b).data.toList.length = b - a := by
    have : (s.extract a b).size = b - a := by rw [ByteArray.size_extract]; omega
    exact this
  have h := run_convert_bytes_back (P := Tryf.prog) W 35 9 5 ⟨B, d, none⟩ cap (s.extract a b).data.toList Tryf.underlying35 Tryf.underlying5 Tryf.underlying9 (fun j hj => by
    obtain ⟨h3, h4⟩ := extract_at s a b j hab hb hj
    have hda : d = a := by omega
    rw [add_lit, hda, hrow (a + j) h3, h4])
  rw [hl, ← hn] at h
  exact h

theorem ret_bool' {a b : Bool} (h : a = b) : Ending.returned (.bool a) = .returned (.bool b) := by rw [h]

set_option maxRecDepth 100000 in
set_option maxHeartbeats 4000000 in
theorem l3_yes (s : ByteArray) (k : Int) (c : Nat) (w : World) (hs : s.size ≤ 524288) (hc : Cuts s k c) :
    Calls Tryf.prog 3 #[.string s, .int .i64 k] w fun e w' => e = .returned (.bool true) ∧ Below w.heap.size w w' := by
  have HC := Lib.hid hc
  have hsp := split_eq s c hc.le
  have hcl := hc.le
  have hz1 : (s.extract 0 c).size ≤ 524288 := by rw [ByteArray.size_extract]; omega
  have hz2 : (s.extract c s.size).size ≤ 524288 := by rw [ByteArray.size_extract]; omega
  have hcv := fun W : World => run_bytes_of_string (P := Tryf.prog) W 9 35 5 s Tryf.underlying9 Tryf.underlying35 Tryf.underlying5
  clear hc
  go_enter Tryf.func3, Tryf.ntmps3
  go_wp2_with fail
  refine (zz5_yes s k _ (by omega)).mono ?_
  rintro e w' ⟨rfl, rfl⟩
  go_wp2_with fail
  refine (HC.out.sl _).mono ?_
  rintro e w1 ⟨rfl, hb1⟩
  go_wp2_with fail
  refine (HC.out.sr _).mono ?_
  rintro e w2 ⟨rfl, hb2⟩
  have HB2 : Hid (Below w.heap.size w w2) := hb1.trans (hb2.mono hb1.size)
  have hs2 : w.heap.size ≤ w2.heap.size := HB2.out.size
  clear hb1 hb2
  go_wp2_with fail
  refine (HC.out.bl _ _ _ (grownCap_ge _ _ _ _)).mono ?_
  rintro e w3 ⟨d, hd, rfl, hb3⟩
  have hr3 : Hid (∀ j (hj : j < s.data.size), w3.cell? ⟨w2.heap.size, j, none⟩ = some (.int .u8 (s.data[j].toNat : Int))) := fun j hj => by
    refine (hb3.cell (p := ⟨w2.heap.size, j, none⟩) (by simp)).trans ?_
    rw [← bytesRow_at s (grownCap w2 s.size 0 5) j hj]
    exact cell_of_row _ w2.heap.size j _ 5 _ (heap_alloc_new w2 _)
  have hc3 := conv_part s w3 w2.heap.size d 0 c c (grownCap w2 s.size 0 5) hr3.out (Nat.zero_le _) hcl (by omega) hd
  have HB3 : Hid (Below w.heap.size w w3) := ((HB2.out.alloc hs2 _).drew).trans (hb3.mono (by simp; omega))
  have hs3 : w.heap.size ≤ w3.heap.size := HB3.out.size
  clear hb3 hd
  go_wp2_with fail
  refine (HC.out.br _ _ _ (grownCap_ge _ _ _ _)).mono ?_
  rintro e w4 ⟨d2, hd2, rfl, hb4⟩
  have hr4 : Hid (∀ j (hj : j < s.data.size), w4.cell? ⟨w3.heap.size, j, none⟩ = some (.int .u8 (s.data[j].toNat : Int))) := fun j hj => by
    refine (hb4.cell (p := ⟨w3.heap.size, j, none⟩) (by simp)).trans ?_
    rw [← bytesRow_at s (grownCap w3 s.size 0 5) j hj]
    exact cell_of_row _ w3.heap.size j _ 5 _ (heap_alloc_new w3 _)
  have hc4 := conv_part s w4 w3.heap.size d2 c s.size (s.size - c) (grownCap w3 s.size 0 5 - c) hr4.out hcl (Nat.le_refl _) rfl hd2
  have HB4 : Hid (Below w.heap.size w w4) := ((HB3.out.alloc hs3 _).drew).trans (hb4.mono (by simp; omega))
  clear hb4 hd2
  go_wp2
  go_ret
  exact ⟨rfl, HB4.out⟩

set_option maxHeartbeats 1000000 in
theorem l3_no (s : ByteArray) (k : Int) (w : World) (h : 524288 < s.size) (h2 : s.size ≤ 9223372036854775807) :
    Calls Tryf.prog 3 #[.string s, .int .i64 k] w fun e w' => e = .returned (.bool true) ∧ Below w.heap.size w w' := by
  by_cases hs : s.size ≤ 1048576
  · go_enter Tryf.func3, Tryf.ntmps3
    go_wp2_with fail
    refine (zz5_yes s k _ hs).mono ?_
    rintro e w' ⟨rfl, rfl⟩
    go_wp2
    go_ret
    exact ⟨rfl, Below.refl _ _⟩
  · have hs' : 1048576 < s.size := by omega
    go_enter Tryf.func3, Tryf.ntmps3
    go_wp2_with fail
    refine (zz5_no s k _ hs' h2).mono ?_
    rintro e w' ⟨rfl, rfl⟩
    go_wp2
    go_ret
    exact ⟨rfl, Below.refl _ _⟩

end Go.Proofs.YtjdnfgpnfmgcmaaFmt
