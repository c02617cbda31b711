/-
  The walk of FnSliceIntsIsIndexFilter, over the window that runtime.Slice gives. No condition but those in each statement.
-/
import Derived.Test.YtjdnfgpnfmgcmaaFmtZi
import Derived.Laws.Cover3
import Derived.Laws.CopyOwn
import Derived.OwnWalk
import Derived.Handy
import Derived.Deep.QuietTactic
import Derived.BigQuiet
import Derived.WalkSmall
namespace Go.Proofs.YtjdnfgpnfmgcmaaFmt
open Go.RowKit Go.Extern

theorem Tryf.info3' : (Tryf.prog.info? 3).map (fun i => (i.zero, i.size, i.bytes)) = some (some (.int .i64 0), 1, 8) := by kernel_rfl
theorem Tryf.size3 : (Tryf.prog.info? 3).map (·.size) = some 1 := by kernel_rfl
def nums (zs : List Int) : List Value := zs.map (.int .i64)
theorem nums_len (zs : List Int) : (nums zs).length = zs.length := by simp [nums]
theorem nums_at (zs : List Int) (k : Nat) (h : k < zs.length) : (nums zs)[k]? = some (.int .i64 zs[k]) := by simp [nums, h]
theorem nums_one (zs : List Int) : ∀ u ∈ nums zs, u.oneCell' = true := by
  intro u hu
  simp only [nums, List.mem_map] at hu
  obtain ⟨z, _, rfl⟩ := hu
  rfl

/-- How many of the first k places lie in the window from A to B. -/
def inWin (A B k : Nat) : Nat := min k B - A
theorem inWin_zero (A B : Nat) : inWin A B 0 = 0 := by unfold inWin; omega
theorem inWin_in (A B k : Nat) (h1 : A ≤ k) (h2 : k < B) : inWin A B k = k - A ∧ inWin A B (k + 1) = inWin A B k + 1 := by unfold inWin; omega
theorem inWin_out (A B k : Nat) (h : ¬ (A ≤ k ∧ k < B)) : inWin A B (k + 1) = inWin A B k := by unfold inWin; omega
theorem inWin_all (A B n : Nat) (h : B ≤ n) : inWin A B n = B - A := by unfold inWin; omega
theorem inWin_le (A B k : Nat) : inWin A B k ≤ B := by unfold inWin; omega

set_option maxRecDepth 100000 in
set_option maxHeartbeats 4000000 in
theorem l4_pp (p : Addr) (n c : Nat) (zs : List Int) (a b : Int) (A B : Nat) (w : World) (hz : zs.length = n) (hn : n ≤ 131072) (hc : n ≤ c) (hp : 0 < n → p.block < w.heap.size)
    (hcell : ∀ j (hj : j < zs.length), w.cell? (p.add j) = some (.int .i64 zs[j])) (ha : 0 ≤ a) (hb : 0 ≤ b) (hw : Window n a b a b A B) :
    Calls Tryf.prog 4 #[.slice (some p) n c, .int .i64 a, .int .i64 b] w fun e w' => e = .returned (.bool true) ∧ Below w.heap.size w w' := by
  obtain ⟨i0, hi, hz0, hz1, hz2⟩ := info_parts Tryf.info3'
  have HW := Lib.hid hw
  have HC := Lib.hid hcell
  have HP := Lib.hid hp
  have HZ := Lib.hid hz
  have hAB := hw.ab
  have hBn := hw.bn
  clear hw hcell hp hz
  go_enter Tryf.func4, Tryf.ntmps4
  go_wp2_with fail
  refine (zz8_yes _ n c a b _ (by omega)).mono ?_
  rintro e w' ⟨rfl, rfl⟩
  go_wp2_with (at_make; refine wpList_make_full _ rfl _ _ 39 rfl w.heap.size 3 i0 (.int .i64 0) 1 Tryf.underlying39 hi hz0 hz1 .i64 .i64 _ _ n rfl rfl rfl rfl ?c2 ?c3 ?c4 ?_)
  case c2 => rw [hz2]; omega
  case c3 => unfold maxLen; omega
  case c4 => exact Nat.le_refl _
  intro w1 hown1 hg1
  have HB1 : Hid (Below w.heap.size w w1) := (Below.refl _ w).grown hg1 (Nat.le_refl _) (fun k e => by cases e)
  have hlt1 : w.heap.size < w1.heap.size := (hown1.lt w.heap.size rfl).2
  obtain ⟨cur, hcur, hcs⟩ : ∃ cur : List Value, w1.heap[w.heap.size]? = some (.cells cur.toArray 3 (0, 0)) ∧ cur.length = n := by
    rcases hown1.2 with ⟨h, _⟩ | ⟨g, cap, cur, hv, _, hgg, _, _, hsz, _⟩
    · cases h
    · simp only [Value.slice.injEq, Option.some.injEq, Addr.mk.injEq, and_true, true_and] at hv
      obtain ⟨rfl, rfl⟩ := hv
      exact ⟨cur.toList, by simpa using hgg, by simpa using hsz⟩
  clear hown1 hg1
  obtain ⟨cs, hcsd⟩ : ∃ cs, cs = nums zs := ⟨_, rfl⟩
  have HCS := Lib.hid hcsd
  have hcl : cs.length = n := by rw [hcsd, nums_len, HZ.out]
  have hsrc : Hid (∀ j v, cs[j]? = some v → w1.cell? (p.add j) = some v) := fun j v hj => by
    have hjn : j < cs.length := (List.getElem?_eq_some_iff.1 hj).1
    have hj2 : j < zs.length := by rw [HZ.out, ← hcl]; exact hjn
    rw [HCS.out, nums_at zs j hj2] at hj
    rw [← hj, ← HC.out j hj2]
    exact HB1.out.cell (p := p.add j) (by rw [Go.ChangeShapes.block_add]; exact HP.out (by omega))
  clear hcsd
  go_wp2_with ((show wpList _ _ _ (⟨some 29, _, _, _, _, _⟩ :: _) _ _); go_loud (refine wpList_copy_splice rfl _ _ 39 39 rfl 3 Tryf.underlying39 Tryf.size3 (some ⟨w.heap.size, 0, none⟩) (some p) n n n c rfl rfl w.heap.size 0 cur 3 hcur cs (by rw [hcl]; exact (Nat.min_self n).symm) (fun _ => ⟨rfl, p, rfl, hsrc.out⟩) (by omega) (by rw [HCS.out]; exact nums_one zs) w.heap.size w HB1.out (Nat.le_refl _) ?_))
  intro w2 hg2 hb2
  have HR : Hid (∀ j (hj : j < zs.length), w2.cell? ⟨w.heap.size, j, none⟩ = some (.int .i64 zs[j])) := fun j hj => by
    have e1 : splice cur 0 cs = cs := by
      unfold splice
      rw [List.take_zero, List.nil_append, Nat.zero_add, List.drop_eq_nil_of_le (by omega), List.append_nil]
    have e2 := hg2.out
    rw [e1, HCS.out] at e2
    rw [← nums_at zs j hj, ← List.getElem?_toArray]
    exact cell_of_row _ w.heap.size j _ 3 _ e2
  have HB2 := Lib.hid hb2
  have hs2 : w.heap.size ≤ w2.heap.size := hb2.size
  have hlt2 : w.heap.size < w2.heap.size := by
    have := hg2.out
    rcases Nat.lt_or_ge w.heap.size w2.heap.size with h | h
    · exact h
    · simp [Array.getElem?_eq_none h] at this
  clear hg2 hb2 hsrc HCS hcl hcur hcs HB1
  obtain ⟨L, hL⟩ : ∃ L, L = B - A := ⟨_, rfl⟩
  have HG : Hid (∀ G W, Calls Tryf.prog 9 #[.slice (some ⟨G, 0, none⟩) n n, .int .i64 a, .int .i64 b] W fun e w' => GaveInts G A L (n - A) W e w') := fun G W => by
    rw [hL]
    exact HW.out.got G n W (Nat.le_refl n)
  obtain ⟨C, hC⟩ : ∃ C, C = n - A := ⟨_, rfl⟩
  rw [← hC] at HG
  have HL := Lib.hid hL
  clear hL hC
  go_wp2_with fail
  refine (HG.out _ _).mono ?_
  rintro e w3 ⟨d, hd, rfl, hb3⟩
  have HR3 : Hid (∀ j (hj : j < zs.length), w3.cell? ⟨w.heap.size, j, none⟩ = some (.int .i64 zs[j])) := fun j hj => by
    rw [← HR.out j hj]
    exact hb3.cell (p := ⟨w.heap.size, j, none⟩) hlt2
  have HB3 : Hid (Below w.heap.size w w3) := HB2.out.trans (hb3.mono hs2)
  have hlt3 : w.heap.size < w3.heap.size := Nat.lt_of_lt_of_le hlt2 hb3.size
  have HD := Lib.hid hd
  have hLn : L ≤ 131072 := by have := HL.out; omega
  clear hb3 hd
  go_wp2_with fail
  go_loopw [12, 13] (fun x y wr => ∃ k j : Nat, k ≤ n ∧ y = .int .i64 k ∧ x = .int .i64 j ∧ Hid (j = inWin A B k) ∧ Below w3.heap.size w3 wr) (fun _ y _ => n - (intOf y).toNat)
  case atStart => exact ⟨0, 0, Nat.zero_le _, rfl, rfl, (inWin_zero A B).symm, Below.refl _ _⟩
  case round =>
    obtain ⟨k, j, hk, rfl, rfl, HJ, hbr⟩ := hrel
    have HBR := Lib.hid hbr
    clear hbr
    have hjb : j ≤ 131072 := by have := inWin_le A B k; have := HJ.out; omega
    by_cases hlt : k < n
    · have hwin := HW.out.win k hlt
      by_cases hin : A ≤ k ∧ k < B
      · have hS := (hwin.2 hin).1
        have hE := (hwin.2 hin).2
        have hw2 := inWin_in A B k hin.1 hin.2
        have hj1 : j + A = k := by have := HJ.out; omega
        have hjL : j < L := by have := HJ.out; have := HL.out; omega
        obtain rfl : d = A := by have := HD.out; omega
        have HJ2 : Hid (j + 1 = inWin d B (k + 1)) := by have := HJ.out; exact Lib.hid (by omega)
        have hkz : k < zs.length := by rw [HZ.out]; exact hlt
        have c1 : wr.cell? ⟨w.heap.size, k, none⟩ = some (.int .i64 zs[k]) := by
          rw [← HR3.out k hkz]
          exact HBR.out.cell (p := ⟨w.heap.size, k, none⟩) hlt3
        obtain ⟨z, hz⟩ : ∃ z, z = zs[k] := ⟨_, rfl⟩
        rw [← hz] at c1
        have c2 : wr.cell? ⟨w.heap.size, d + j, none⟩ = some (.int .i64 z) := by rw [show d + j = k by omega]; exact c1
        have hjI : (j : Int) < (L : Int) := by omega
        have hkI : (k : Int) < (n : Int) := by omega
        clear hz hw2 hwin hj1 hin
        go_wp2
        go_quiet (fail)
        go_wp2
        go_roundw
        case rel => exact ⟨k + 1, j + 1, by omega, by go_num, by go_num, HJ2, below_drewN HBR.out _⟩
        case measure => simp [intOf]; omega
      · have HJ2 : Hid (j = inWin A B (k + 1)) := by rw [inWin_out A B k hin]; exact HJ
        by_cases hS : a ≤ k
        · have hE : ¬ (k : Int) < b := fun h => hin (hwin.1 ⟨hS, h⟩)
          clear hwin hin
          go_wp2
          go_roundw
          case rel => exact ⟨k + 1, j, by omega, by go_num, rfl, HJ2, HBR.out⟩
          case measure => simp [intOf]; omega
        · clear hwin hin
          go_wp2
          go_roundw
          case rel => exact ⟨k + 1, j, by omega, by go_num, rfl, HJ2, HBR.out⟩
          case measure => simp [intOf]; omega
    · have hkn : k = n := by omega
      subst hkn
      have hjL : j = L := by rw [HJ.out, HL.out]; exact inWin_all A B k hBn
      subst hjL
      go_wp2
      go_ret
      exact ⟨rfl, HB3.out.trans (HBR.out.mono HB3.out.size)⟩

set_option maxRecDepth 100000 in
set_option maxHeartbeats 4000000 in
theorem l4_np (p : Addr) (n c : Nat) (zs : List Int) (a b S : Int) (A B : Nat) (w : World) (hz : zs.length = n) (hn : n ≤ 131072) (hc : n ≤ c) (hp : 0 < n → p.block < w.heap.size)
    (hcell : ∀ j (hj : j < zs.length), w.cell? (p.add j) = some (.int .i64 zs[j])) (ha : a < 0) (ha2 : a + (n : Int) = S) (ha3 : -9223372036854775808 ≤ a) (hb : 0 ≤ b) (hw : Window n a b S b A B) :
    Calls Tryf.prog 4 #[.slice (some p) n c, .int .i64 a, .int .i64 b] w fun e w' => e = .returned (.bool true) ∧ Below w.heap.size w w' := by
  obtain ⟨i0, hi, hz0, hz1, hz2⟩ := info_parts Tryf.info3'
  have HW := Lib.hid hw
  have HC := Lib.hid hcell
  have HP := Lib.hid hp
  have HZ := Lib.hid hz
  have hAB := hw.ab
  have hBn := hw.bn
  clear hw hcell hp hz
  go_enter Tryf.func4, Tryf.ntmps4
  go_wp2_with fail
  refine (zz8_yes _ n c a b _ (by omega)).mono ?_
  rintro e w' ⟨rfl, rfl⟩
  go_wp2_with (at_make; refine wpList_make_full _ rfl _ _ 39 rfl w.heap.size 3 i0 (.int .i64 0) 1 Tryf.underlying39 hi hz0 hz1 .i64 .i64 _ _ n rfl rfl rfl rfl ?c2 ?c3 ?c4 ?_)
  case c2 => rw [hz2]; omega
  case c3 => unfold maxLen; omega
  case c4 => exact Nat.le_refl _
  intro w1 hown1 hg1
  have HB1 : Hid (Below w.heap.size w w1) := (Below.refl _ w).grown hg1 (Nat.le_refl _) (fun k e => by cases e)
  have hlt1 : w.heap.size < w1.heap.size := (hown1.lt w.heap.size rfl).2
  obtain ⟨cur, hcur, hcs⟩ : ∃ cur : List Value, w1.heap[w.heap.size]? = some (.cells cur.toArray 3 (0, 0)) ∧ cur.length = n := by
    rcases hown1.2 with ⟨h, _⟩ | ⟨g, cap, cur, hv, _, hgg, _, _, hsz, _⟩
    · cases h
    · simp only [Value.slice.injEq, Option.some.injEq, Addr.mk.injEq, and_true, true_and] at hv
      obtain ⟨rfl, rfl⟩ := hv
      exact ⟨cur.toList, by simpa using hgg, by simpa using hsz⟩
  clear hown1 hg1
  obtain ⟨cs, hcsd⟩ : ∃ cs, cs = nums zs := ⟨_, rfl⟩
  have HCS := Lib.hid hcsd
  have hcl : cs.length = n := by rw [hcsd, nums_len, HZ.out]
  have hsrc : Hid (∀ j v, cs[j]? = some v → w1.cell? (p.add j) = some v) := fun j v hj => by
    have hjn : j < cs.length := (List.getElem?_eq_some_iff.1 hj).1
    have hj2 : j < zs.length := by rw [HZ.out, ← hcl]; exact hjn
    rw [HCS.out, nums_at zs j hj2] at hj
    rw [← hj, ← HC.out j hj2]
    exact HB1.out.cell (p := p.add j) (by rw [Go.ChangeShapes.block_add]; exact HP.out (by omega))
  clear hcsd
  go_wp2_with ((show wpList _ _ _ (⟨some 29, _, _, _, _, _⟩ :: _) _ _); go_loud (refine wpList_copy_splice rfl _ _ 39 39 rfl 3 Tryf.underlying39 Tryf.size3 (some ⟨w.heap.size, 0, none⟩) (some p) n n n c rfl rfl w.heap.size 0 cur 3 hcur cs (by rw [hcl]; exact (Nat.min_self n).symm) (fun _ => ⟨rfl, p, rfl, hsrc.out⟩) (by omega) (by rw [HCS.out]; exact nums_one zs) w.heap.size w HB1.out (Nat.le_refl _) ?_))
  intro w2 hg2 hb2
  have HR : Hid (∀ j (hj : j < zs.length), w2.cell? ⟨w.heap.size, j, none⟩ = some (.int .i64 zs[j])) := fun j hj => by
    have e1 : splice cur 0 cs = cs := by
      unfold splice
      rw [List.take_zero, List.nil_append, Nat.zero_add, List.drop_eq_nil_of_le (by omega), List.append_nil]
    have e2 := hg2.out
    rw [e1, HCS.out] at e2
    rw [← nums_at zs j hj, ← List.getElem?_toArray]
    exact cell_of_row _ w.heap.size j _ 3 _ e2
  have HB2 := Lib.hid hb2
  have hs2 : w.heap.size ≤ w2.heap.size := hb2.size
  have hlt2 : w.heap.size < w2.heap.size := by
    have := hg2.out
    rcases Nat.lt_or_ge w.heap.size w2.heap.size with h | h
    · exact h
    · simp [Array.getElem?_eq_none h] at this
  clear hg2 hb2 hsrc HCS hcl hcur hcs HB1
  obtain ⟨L, hL⟩ : ∃ L, L = B - A := ⟨_, rfl⟩
  have HG : Hid (∀ G W, Calls Tryf.prog 9 #[.slice (some ⟨G, 0, none⟩) n n, .int .i64 a, .int .i64 b] W fun e w' => GaveInts G A L (n - A) W e w') := fun G W => by
    rw [hL]
    exact HW.out.got G n W (Nat.le_refl n)
  obtain ⟨C, hC⟩ : ∃ C, C = n - A := ⟨_, rfl⟩
  rw [← hC] at HG
  have HL := Lib.hid hL
  clear hL hC
  go_wp2_with fail
  refine (HG.out _ _).mono ?_
  rintro e w3 ⟨d, hd, rfl, hb3⟩
  have HR3 : Hid (∀ j (hj : j < zs.length), w3.cell? ⟨w.heap.size, j, none⟩ = some (.int .i64 zs[j])) := fun j hj => by
    rw [← HR.out j hj]
    exact hb3.cell (p := ⟨w.heap.size, j, none⟩) hlt2
  have HB3 : Hid (Below w.heap.size w w3) := HB2.out.trans (hb3.mono hs2)
  have hlt3 : w.heap.size < w3.heap.size := Nat.lt_of_lt_of_le hlt2 hb3.size
  have HD := Lib.hid hd
  have hLn : L ≤ 131072 := by have := HL.out; omega
  clear hb3 hd
  go_wp2_with fail
  go_loopw [12, 13] (fun x y wr => ∃ k j : Nat, k ≤ n ∧ y = .int .i64 k ∧ x = .int .i64 j ∧ Hid (j = inWin A B k) ∧ Below w3.heap.size w3 wr) (fun _ y _ => n - (intOf y).toNat)
  case atStart => exact ⟨0, 0, Nat.zero_le _, rfl, rfl, (inWin_zero A B).symm, Below.refl _ _⟩
  case round =>
    obtain ⟨k, j, hk, rfl, rfl, HJ, hbr⟩ := hrel
    have HBR := Lib.hid hbr
    clear hbr
    have hjb : j ≤ 131072 := by have := inWin_le A B k; have := HJ.out; omega
    by_cases hlt : k < n
    · have hwin := HW.out.win k hlt
      by_cases hin : A ≤ k ∧ k < B
      · have hS := (hwin.2 hin).1
        have hE := (hwin.2 hin).2
        have hw2 := inWin_in A B k hin.1 hin.2
        have hj1 : j + A = k := by have := HJ.out; omega
        have hjL : j < L := by have := HJ.out; have := HL.out; omega
        obtain rfl : d = A := by have := HD.out; omega
        have HJ2 : Hid (j + 1 = inWin d B (k + 1)) := by have := HJ.out; exact Lib.hid (by omega)
        have hkz : k < zs.length := by rw [HZ.out]; exact hlt
        have c1 : wr.cell? ⟨w.heap.size, k, none⟩ = some (.int .i64 zs[k]) := by
          rw [← HR3.out k hkz]
          exact HBR.out.cell (p := ⟨w.heap.size, k, none⟩) hlt3
        obtain ⟨z, hz⟩ : ∃ z, z = zs[k] := ⟨_, rfl⟩
        rw [← hz] at c1
        have c2 : wr.cell? ⟨w.heap.size, d + j, none⟩ = some (.int .i64 z) := by rw [show d + j = k by omega]; exact c1
        have hjI : (j : Int) < (L : Int) := by omega
        have hkI : (k : Int) < (n : Int) := by omega
        clear hz hw2 hwin hj1 hin
        go_wp2
        go_quiet (fail)
        go_wp2
        go_roundw
        case rel => exact ⟨k + 1, j + 1, by omega, by go_num, by go_num, HJ2, below_drewN HBR.out _⟩
        case measure => simp [intOf]; omega
      · have HJ2 : Hid (j = inWin A B (k + 1)) := by rw [inWin_out A B k hin]; exact HJ
        by_cases hS : S ≤ k
        · have hE : ¬ (k : Int) < b := fun h => hin (hwin.1 ⟨hS, h⟩)
          clear hwin hin
          go_wp2
          go_roundw
          case rel => exact ⟨k + 1, j, by omega, by go_num, rfl, HJ2, HBR.out⟩
          case measure => simp [intOf]; omega
        · clear hwin hin
          go_wp2
          go_roundw
          case rel => exact ⟨k + 1, j, by omega, by go_num, rfl, HJ2, HBR.out⟩
          case measure => simp [intOf]; omega
    · have hkn : k = n := by omega
      subst hkn
      have hjL : j = L := by rw [HJ.out, HL.out]; exact inWin_all A B k hBn
      subst hjL
      go_wp2
      go_ret
      exact ⟨rfl, HB3.out.trans (HBR.out.mono HB3.out.size)⟩

set_option maxRecDepth 100000 in
set_option maxHeartbeats 4000000 in
theorem l4_pn (p : Addr) (n c : Nat) (zs : List Int) (a b E : Int) (A B : Nat) (w : World) (hz : zs.length = n) (hn : n ≤ 131072) (hc : n ≤ c) (hp : 0 < n → p.block < w.heap.size)
    (hcell : ∀ j (hj : j < zs.length), w.cell? (p.add j) = some (.int .i64 zs[j])) (ha : 0 ≤ a) (hb : b < 0) (hb2 : b + (n : Int) = E) (hb3 : -9223372036854775808 ≤ b) (hw : Window n a b a E A B) :
    Calls Tryf.prog 4 #[.slice (some p) n c, .int .i64 a, .int .i64 b] w fun e w' => e = .returned (.bool true) ∧ Below w.heap.size w w' := by
  obtain ⟨i0, hi, hz0, hz1, hz2⟩ := info_parts Tryf.info3'
  have HW := Lib.hid hw
  have HC := Lib.hid hcell
  have HP := Lib.hid hp
  have HZ := Lib.hid hz
  have hAB := hw.ab
  have hBn := hw.bn
  clear hw hcell hp hz
  go_enter Tryf.func4, Tryf.ntmps4
  go_wp2_with fail
  refine (zz8_yes _ n c a b _ (by omega)).mono ?_
  rintro e w' ⟨rfl, rfl⟩
  go_wp2_with (at_make; refine wpList_make_full _ rfl _ _ 39 rfl w.heap.size 3 i0 (.int .i64 0) 1 Tryf.underlying39 hi hz0 hz1 .i64 .i64 _ _ n rfl rfl rfl rfl ?c2 ?c3 ?c4 ?_)
  case c2 => rw [hz2]; omega
  case c3 => unfold maxLen; omega
  case c4 => exact Nat.le_refl _
  intro w1 hown1 hg1
  have HB1 : Hid (Below w.heap.size w w1) := (Below.refl _ w).grown hg1 (Nat.le_refl _) (fun k e => by cases e)
  have hlt1 : w.heap.size < w1.heap.size := (hown1.lt w.heap.size rfl).2
  obtain ⟨cur, hcur, hcs⟩ : ∃ cur : List Value, w1.heap[w.heap.size]? = some (.cells cur.toArray 3 (0, 0)) ∧ cur.length = n := by
    rcases hown1.2 with ⟨h, _⟩ | ⟨g, cap, cur, hv, _, hgg, _, _, hsz, _⟩
    · cases h
    · simp only [Value.slice.injEq, Option.some.injEq, Addr.mk.injEq, and_true, true_and] at hv
      obtain ⟨rfl, rfl⟩ := hv
      exact ⟨cur.toList, by simpa using hgg, by simpa using hsz⟩
  clear hown1 hg1
  obtain ⟨cs, hcsd⟩ : ∃ cs, cs = nums zs := ⟨_, rfl⟩
  have HCS := Lib.hid hcsd
  have hcl : cs.length = n := by rw [hcsd, nums_len, HZ.out]
  have hsrc : Hid (∀ j v, cs[j]? = some v → w1.cell? (p.add j) = some v) := fun j v hj => by
    have hjn : j < cs.length := (List.getElem?_eq_some_iff.1 hj).1
    have hj2 : j < zs.length := by rw [HZ.out, ← hcl]; exact hjn
    rw [HCS.out, nums_at zs j hj2] at hj
    rw [← hj, ← HC.out j hj2]
    exact HB1.out.cell (p := p.add j) (by rw [Go.ChangeShapes.block_add]; exact HP.out (by omega))
  clear hcsd
  go_wp2_with ((show wpList _ _ _ (⟨some 29, _, _, _, _, _⟩ :: _) _ _); go_loud (refine wpList_copy_splice rfl _ _ 39 39 rfl 3 Tryf.underlying39 Tryf.size3 (some ⟨w.heap.size, 0, none⟩) (some p) n n n c rfl rfl w.heap.size 0 cur 3 hcur cs (by rw [hcl]; exact (Nat.min_self n).symm) (fun _ => ⟨rfl, p, rfl, hsrc.out⟩) (by omega) (by rw [HCS.out]; exact nums_one zs) w.heap.size w HB1.out (Nat.le_refl _) ?_))
  intro w2 hg2 hb2
  have HR : Hid (∀ j (hj : j < zs.length), w2.cell? ⟨w.heap.size, j, none⟩ = some (.int .i64 zs[j])) := fun j hj => by
    have e1 : splice cur 0 cs = cs := by
      unfold splice
      rw [List.take_zero, List.nil_append, Nat.zero_add, List.drop_eq_nil_of_le (by omega), List.append_nil]
    have e2 := hg2.out
    rw [e1, HCS.out] at e2
    rw [← nums_at zs j hj, ← List.getElem?_toArray]
    exact cell_of_row _ w.heap.size j _ 3 _ e2
  have HB2 := Lib.hid hb2
  have hs2 : w.heap.size ≤ w2.heap.size := hb2.size
  have hlt2 : w.heap.size < w2.heap.size := by
    have := hg2.out
    rcases Nat.lt_or_ge w.heap.size w2.heap.size with h | h
    · exact h
    · simp [Array.getElem?_eq_none h] at this
  clear hg2 hb2 hsrc HCS hcl hcur hcs HB1
  obtain ⟨L, hL⟩ : ∃ L, L = B - A := ⟨_, rfl⟩
  have HG : Hid (∀ G W, Calls Tryf.prog 9 #[.slice (some ⟨G, 0, none⟩) n n, .int .i64 a, .int .i64 b] W fun e w' => GaveInts G A L (n - A) W e w') := fun G W => by
    rw [hL]
    exact HW.out.got G n W (Nat.le_refl n)
  obtain ⟨C, hC⟩ : ∃ C, C = n - A := ⟨_, rfl⟩
  rw [← hC] at HG
  have HL := Lib.hid hL
  clear hL hC
  go_wp2_with fail
  refine (HG.out _ _).mono ?_
  rintro e w3 ⟨d, hd, rfl, hb3⟩
  have HR3 : Hid (∀ j (hj : j < zs.length), w3.cell? ⟨w.heap.size, j, none⟩ = some (.int .i64 zs[j])) := fun j hj => by
    rw [← HR.out j hj]
    exact hb3.cell (p := ⟨w.heap.size, j, none⟩) hlt2
  have HB3 : Hid (Below w.heap.size w w3) := HB2.out.trans (hb3.mono hs2)
  have hlt3 : w.heap.size < w3.heap.size := Nat.lt_of_lt_of_le hlt2 hb3.size
  have HD := Lib.hid hd
  have hLn : L ≤ 131072 := by have := HL.out; omega
  clear hb3 hd
  go_wp2_with fail
  go_loopw [12, 13] (fun x y wr => ∃ k j : Nat, k ≤ n ∧ y = .int .i64 k ∧ x = .int .i64 j ∧ Hid (j = inWin A B k) ∧ Below w3.heap.size w3 wr) (fun _ y _ => n - (intOf y).toNat)
  case atStart => exact ⟨0, 0, Nat.zero_le _, rfl, rfl, (inWin_zero A B).symm, Below.refl _ _⟩
  case round =>
    obtain ⟨k, j, hk, rfl, rfl, HJ, hbr⟩ := hrel
    have HBR := Lib.hid hbr
    clear hbr
    have hjb : j ≤ 131072 := by have := inWin_le A B k; have := HJ.out; omega
    by_cases hlt : k < n
    · have hwin := HW.out.win k hlt
      by_cases hin : A ≤ k ∧ k < B
      · have hS := (hwin.2 hin).1
        have hE := (hwin.2 hin).2
        have hw2 := inWin_in A B k hin.1 hin.2
        have hj1 : j + A = k := by have := HJ.out; omega
        have hjL : j < L := by have := HJ.out; have := HL.out; omega
        obtain rfl : d = A := by have := HD.out; omega
        have HJ2 : Hid (j + 1 = inWin d B (k + 1)) := by have := HJ.out; exact Lib.hid (by omega)
        have hkz : k < zs.length := by rw [HZ.out]; exact hlt
        have c1 : wr.cell? ⟨w.heap.size, k, none⟩ = some (.int .i64 zs[k]) := by
          rw [← HR3.out k hkz]
          exact HBR.out.cell (p := ⟨w.heap.size, k, none⟩) hlt3
        obtain ⟨z, hz⟩ : ∃ z, z = zs[k] := ⟨_, rfl⟩
        rw [← hz] at c1
        have c2 : wr.cell? ⟨w.heap.size, d + j, none⟩ = some (.int .i64 z) := by rw [show d + j = k by omega]; exact c1
        have hjI : (j : Int) < (L : Int) := by omega
        have hkI : (k : Int) < (n : Int) := by omega
        clear hz hw2 hwin hj1 hin
        go_wp2
        go_quiet (fail)
        go_wp2
        go_roundw
        case rel => exact ⟨k + 1, j + 1, by omega, by go_num, by go_num, HJ2, below_drewN HBR.out _⟩
        case measure => simp [intOf]; omega
      · have HJ2 : Hid (j = inWin A B (k + 1)) := by rw [inWin_out A B k hin]; exact HJ
        by_cases hS : a ≤ k
        · have hE : ¬ (k : Int) < E := fun h => hin (hwin.1 ⟨hS, h⟩)
          clear hwin hin
          go_wp2
          go_roundw
          case rel => exact ⟨k + 1, j, by omega, by go_num, rfl, HJ2, HBR.out⟩
          case measure => simp [intOf]; omega
        · clear hwin hin
          go_wp2
          go_roundw
          case rel => exact ⟨k + 1, j, by omega, by go_num, rfl, HJ2, HBR.out⟩
          case measure => simp [intOf]; omega
    · have hkn : k = n := by omega
      subst hkn
      have hjL : j = L := by rw [HJ.out, HL.out]; exact inWin_all A B k hBn
      subst hjL
      go_wp2
      go_ret
      exact ⟨rfl, HB3.out.trans (HBR.out.mono HB3.out.size)⟩

set_option maxRecDepth 100000 in
set_option maxHeartbeats 4000000 in
theorem l4_nn (p : Addr) (n c : Nat) (zs : List Int) (a b S E : Int) (A B : Nat) (w : World) (hz : zs.length = n) (hn : n ≤ 131072) (hc : n ≤ c) (hp : 0 < n → p.block < w.heap.size)
    (hcell : ∀ j (hj : j < zs.length), w.cell? (p.add j) = some (.int .i64 zs[j])) (ha : a < 0) (ha2 : a + (n : Int) = S) (ha3 : -9223372036854775808 ≤ a) (hb : b < 0) (hb2 : b + (n : Int) = E) (hb3 : -9223372036854775808 ≤ b) (hw : Window n a b S E A B) :
    Calls Tryf.prog 4 #[.slice (some p) n c, .int .i64 a, .int .i64 b] w fun e w' => e = .returned (.bool true) ∧ Below w.heap.size w w' := by
  obtain ⟨i0, hi, hz0, hz1, hz2⟩ := info_parts Tryf.info3'
  have HW := Lib.hid hw
  have HC := Lib.hid hcell
  have HP := Lib.hid hp
  have HZ := Lib.hid hz
  have hAB := hw.ab
  have hBn := hw.bn
  clear hw hcell hp hz
  go_enter Tryf.func4, Tryf.ntmps4
  go_wp2_with fail
  refine (zz8_yes _ n c a b _ (by omega)).mono ?_
  rintro e w' ⟨rfl, rfl⟩
  go_wp2_with (at_make; refine wpList_make_full _ rfl _ _ 39 rfl w.heap.size 3 i0 (.int .i64 0) 1 Tryf.underlying39 hi hz0 hz1 .i64 .i64 _ _ n rfl rfl rfl rfl ?c2 ?c3 ?c4 ?_)
  case c2 => rw [hz2]; omega
  case c3 => unfold maxLen; omega
  case c4 => exact Nat.le_refl _
  intro w1 hown1 hg1
  have HB1 : Hid (Below w.heap.size w w1) := (Below.refl _ w).grown hg1 (Nat.le_refl _) (fun k e => by cases e)
  have hlt1 : w.heap.size < w1.heap.size := (hown1.lt w.heap.size rfl).2
  obtain ⟨cur, hcur, hcs⟩ : ∃ cur : List Value, w1.heap[w.heap.size]? = some (.cells cur.toArray 3 (0, 0)) ∧ cur.length = n := by
    rcases hown1.2 with ⟨h, _⟩ | ⟨g, cap, cur, hv, _, hgg, _, _, hsz, _⟩
    · cases h
    · simp only [Value.slice.injEq, Option.some.injEq, Addr.mk.injEq, and_true, true_and] at hv
      obtain ⟨rfl, rfl⟩ := hv
      exact ⟨cur.toList, by simpa using hgg, by simpa using hsz⟩
  clear hown1 hg1
  obtain ⟨cs, hcsd⟩ : ∃ cs, cs = nums zs := ⟨_, rfl⟩
  have HCS := Lib.hid hcsd
  have hcl : cs.length = n := by rw [hcsd, nums_len, HZ.out]
  have hsrc : Hid (∀ j v, cs[j]? = some v → w1.cell? (p.add j) = some v) := fun j v hj => by
    have hjn : j < cs.length := (List.getElem?_eq_some_iff.1 hj).1
    have hj2 : j < zs.length := by rw [HZ.out, ← hcl]; exact hjn
    rw [HCS.out, nums_at zs j hj2] at hj
    rw [← hj, ← HC.out j hj2]
    exact HB1.out.cell (p := p.add j) (by rw [Go.ChangeShapes.block_add]; exact HP.out (by omega))
  clear hcsd
  go_wp2_with ((show wpList _ _ _ (⟨some 29, _, _, _, _, _⟩ :: _) _ _); go_loud (refine wpList_copy_splice rfl _ _ 39 39 rfl 3 Tryf.underlying39 Tryf.size3 (some ⟨w.heap.size, 0, none⟩) (some p) n n n c rfl rfl w.heap.size 0 cur 3 hcur cs (by rw [hcl]; exact (Nat.min_self n).symm) (fun _ => ⟨rfl, p, rfl, hsrc.out⟩) (by omega) (by rw [HCS.out]; exact nums_one zs) w.heap.size w HB1.out (Nat.le_refl _) ?_))
  intro w2 hg2 hb2
  have HR : Hid (∀ j (hj : j < zs.length), w2.cell? ⟨w.heap.size, j, none⟩ = some (.int .i64 zs[j])) := fun j hj => by
    have e1 : splice cur 0 cs = cs := by
      unfold splice
      rw [List.take_zero, List.nil_append, Nat.zero_add, List.drop_eq_nil_of_le (by omega), List.append_nil]
    have e2 := hg2.out
    rw [e1, HCS.out] at e2
    rw [← nums_at zs j hj, ← List.getElem?_toArray]
    exact cell_of_row _ w.heap.size j _ 3 _ e2
  have HB2 := Lib.hid hb2
  have hs2 : w.heap.size ≤ w2.heap.size := hb2.size
  have hlt2 : w.heap.size < w2.heap.size := by
    have := hg2.out
    rcases Nat.lt_or_ge w.heap.size w2.heap.size with h | h
    · exact h
    · simp [Array.getElem?_eq_none h] at this
  clear hg2 hb2 hsrc HCS hcl hcur hcs HB1
  obtain ⟨L, hL⟩ : ∃ L, L = B - A := ⟨_, rfl⟩
  have HG : Hid (∀ G W, Calls Tryf.prog 9 #[.slice (some ⟨G, 0, none⟩) n n, .int .i64 a, .int .i64 b] W fun e w' => GaveInts G A L (n - A) W e w') := fun G W => by
    rw [hL]
    exact HW.out.got G n W (Nat.le_refl n)
  obtain ⟨C, hC⟩ : ∃ C, C = n - A := ⟨_, rfl⟩
  rw [← hC] at HG
  have HL := Lib.hid hL
  clear hL hC
  go_wp2_with fail
  refine (HG.out _ _).mono ?_
  rintro e w3 ⟨d, hd, rfl, hb3⟩
  have HR3 : Hid (∀ j (hj : j < zs.length), w3.cell? ⟨w.heap.size, j, none⟩ = some (.int .i64 zs[j])) := fun j hj => by
    rw [← HR.out j hj]
    exact hb3.cell (p := ⟨w.heap.size, j, none⟩) hlt2
  have HB3 : Hid (Below w.heap.size w w3) := HB2.out.trans (hb3.mono hs2)
  have hlt3 : w.heap.size < w3.heap.size := Nat.lt_of_lt_of_le hlt2 hb3.size
  have HD := Lib.hid hd
  have hLn : L ≤ 131072 := by have := HL.out; omega
  clear hb3 hd
  go_wp2_with fail
  go_loopw [12, 13] (fun x y wr => ∃ k j : Nat, k ≤ n ∧ y = .int .i64 k ∧ x = .int .i64 j ∧ Hid (j = inWin A B k) ∧ Below w3.heap.size w3 wr) (fun _ y _ => n - (intOf y).toNat)
  case atStart => exact ⟨0, 0, Nat.zero_le _, rfl, rfl, (inWin_zero A B).symm, Below.refl _ _⟩
  case round =>
    obtain ⟨k, j, hk, rfl, rfl, HJ, hbr⟩ := hrel
    have HBR := Lib.hid hbr
    clear hbr
    have hjb : j ≤ 131072 := by have := inWin_le A B k; have := HJ.out; omega
    by_cases hlt : k < n
    · have hwin := HW.out.win k hlt
      by_cases hin : A ≤ k ∧ k < B
      · have hS := (hwin.2 hin).1
        have hE := (hwin.2 hin).2
        have hw2 := inWin_in A B k hin.1 hin.2
        have hj1 : j + A = k := by have := HJ.out; omega
        have hjL : j < L := by have := HJ.out; have := HL.out; omega
        obtain rfl : d = A := by have := HD.out; omega
        have HJ2 : Hid (j + 1 = inWin d B (k + 1)) := by have := HJ.out; exact Lib.hid (by omega)
        have hkz : k < zs.length := by rw [HZ.out]; exact hlt
        have c1 : wr.cell? ⟨w.heap.size, k, none⟩ = some (.int .i64 zs[k]) := by
          rw [← HR3.out k hkz]
          exact HBR.out.cell (p := ⟨w.heap.size, k, none⟩) hlt3
        obtain ⟨z, hz⟩ : ∃ z, z = zs[k] := ⟨_, rfl⟩
        rw [← hz] at c1
        have c2 : wr.cell? ⟨w.heap.size, d + j, none⟩ = some (.int .i64 z) := by rw [show d + j = k by omega]; exact c1
        have hjI : (j : Int) < (L : Int) := by omega
        have hkI : (k : Int) < (n : Int) := by omega
        clear hz hw2 hwin hj1 hin
        go_wp2
        go_quiet (fail)
        go_wp2
        go_roundw
        case rel => exact ⟨k + 1, j + 1, by omega, by go_num, by go_num, HJ2, below_drewN HBR.out _⟩
        case measure => simp [intOf]; omega
      · have HJ2 : Hid (j = inWin A B (k + 1)) := by rw [inWin_out A B k hin]; exact HJ
        by_cases hS : S ≤ k
        · have hE : ¬ (k : Int) < E := fun h => hin (hwin.1 ⟨hS, h⟩)
          clear hwin hin
          go_wp2
          go_roundw
          case rel => exact ⟨k + 1, j, by omega, by go_num, rfl, HJ2, HBR.out⟩
          case measure => simp [intOf]; omega
        · clear hwin hin
          go_wp2
          go_roundw
          case rel => exact ⟨k + 1, j, by omega, by go_num, rfl, HJ2, HBR.out⟩
          case measure => simp [intOf]; omega
    · have hkn : k = n := by omega
      subst hkn
      have hjL : j = L := by rw [HJ.out, HL.out]; exact inWin_all A B k hBn
      subst hjL
      go_wp2
      go_ret
      exact ⟨rfl, HB3.out.trans (HBR.out.mono HB3.out.size)⟩

set_option maxRecDepth 100000 in
set_option maxHeartbeats 4000000 in
theorem l4_nil (a b S E : Int) (A B : Nat) (w : World) (_ : -9223372036854775808 ≤ a) (_ : -9223372036854775808 ≤ b) (hw : Window 0 a b S E A B) :
    Calls Tryf.prog 4 #[.slice none 0 0, .int .i64 a, .int .i64 b] w fun e w' => e = .returned (.bool true) ∧ Below w.heap.size w w' := by
  have HW := Lib.hid hw
  clear hw
  rcases Int.lt_or_le a 0 with a0 | a0 <;> rcases Int.lt_or_le b 0 with b0 | b0
  all_goals
    go_enter Tryf.func4, Tryf.ntmps4
    go_wp2_with fail
    refine (zz8_yes _ 0 0 a b _ (by omega)).mono ?_
    rintro e w' ⟨rfl, rfl⟩
    go_wp2_with fail
    refine (HW.out.nil _).mono ?_
    rintro e w3 ⟨rfl, hb3⟩
    have HB3 := Lib.hid hb3
    clear hb3
    go_wp2_with fail
    go_loop [12, 13] (fun x y => y = .int .i64 0 ∧ x = .int .i64 0) (fun _ _ => 0)
    case atStart => exact ⟨rfl, rfl⟩
    case round =>
      obtain ⟨rfl, rfl⟩ := hrel
      go_wp2
      go_ret
      exact ⟨rfl, HB3.out⟩

set_option maxRecDepth 100000 in
set_option maxHeartbeats 4000000 in
theorem l4_no (p : Option Addr) (n c : Nat) (a b : Int) (w : World) (h : 131072 < n) (h2 : n ≤ 9223372036854775807) :
    Calls Tryf.prog 4 #[.slice p n c, .int .i64 a, .int .i64 b] w fun e w' => e = .returned (.bool true) ∧ Below w.heap.size w w' := by
  by_cases hs : n ≤ 1048576
  · go_enter Tryf.func4, Tryf.ntmps4
    go_wp2_with fail
    refine (zz8_yes _ n c a b _ hs).mono ?_
    rintro e w' ⟨rfl, rfl⟩
    go_wp2
    go_ret
    exact ⟨rfl, Below.refl _ _⟩
  · have hs' : 1048576 < n := by omega
    go_enter Tryf.func4, Tryf.ntmps4
    go_wp2_with fail
    refine (zz8_no _ n c a b _ hs' h2).mono ?_
    rintro e w' ⟨rfl, rfl⟩
    go_wp2
    go_ret
    exact ⟨rfl, Below.refl _ _⟩

end Go.Proofs.YtjdnfgpnfmgcmaaFmt
