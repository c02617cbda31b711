/-
  The walk of FnSequenceConcatenation. No condition but those in each statement.
-/
import Derived.Test.YtbmeeoehphdniaaL1
namespace Go.Proofs.Ytbmeeoehphdniaa
open Go.RowKit

theorem ocs (s : ByteArray) : ∀ u ∈ [Value.string s], u.oneCell' = true := by
  intro u hu; simp at hu; subst hu; rfl

theorem joined_app' (sep : List UInt8) (xs ys : List ByteArray) (h1 : 0 < xs.length) (h2 : 0 < ys.length) : joined sep (xs ++ ys) = joined sep xs ++ sep ++ joined sep ys := by
  match xs, ys, h1, h2 with
  | x :: xr, y :: yr, _, _ => exact joined_app sep x y xr yr

theorem strVals_snoc (xs ys : List ByteArray) (k : Nat) (h : k < ys.length) : strVals (xs ++ ys.take (k + 1)) = strVals (xs ++ ys.take k) ++ [.string ys[k]] := by
  unfold strVals
  rw [List.take_succ_eq_append_getElem h, ← List.append_assoc, List.map_append]
  rfl

set_option maxRecDepth 10000 in
set_option maxHeartbeats 4000000 in
theorem s2_yes (a1 a2 : Option Addr) (c1 c2 b1 b2 o1 o2 : Nat) (xs ys : List ByteArray) (w : World) (hx : IsStrs w a1 b1 o1 xs) (hy : IsStrs w a2 b2 o2 ys) (h1 : xs.length ≤ 65536) (h2 : ys.length ≤ 65536) (h3 : 0 < xs.length) (h4 : 0 < ys.length) :
    Calls Try.prog 4 #[.slice a1 xs.length c1, .slice a2 ys.length c2] w fun e w' => e = .returned (.bool true) ∧ Below w.heap.size w w' := by
  obtain ⟨i0, hi, hz0, hz1, hz2⟩ := info_parts Try.info9
  have HX := Lib.hid hx
  have HY := Lib.hid hy
  have t1 : ((xs.length : Int) == 0) = false := by simp only [beq_eq_false_iff_ne, ne_eq]; omega
  have t2 : ((ys.length : Int) == 0) = false := by simp only [beq_eq_false_iff_ne, ne_eq]; omega
  clear hx hy
  go_enter Try.func4, Try.ntmps4
  go_wp2_with fail
  refine (zz9 a1 a2 c1 c2 b1 b2 o1 o2 xs ys _ HX.out HY.out).mono ?_
  rintro e w' ⟨r, rfl, rfl, hr⟩
  cases r
  · go_wp2
    go_ret
    exact ⟨rfl, Below.refl _ _⟩
  have hbd := hr rfl
  have ht : tot xs + tot ys ≤ 1048576 := hbd.1
  clear hr hbd
  go_wp2_with fail
  refine (zz6 a1 c1 b1 o1 xs _ HX.out).mono ?_
  rintro e w' ⟨m1, rfl, rfl⟩
  go_wp2_with fail
  refine (zz6 a2 c2 b2 o2 ys _ HY.out).mono ?_
  rintro e w' ⟨m2, rfl, rfl⟩
  go_wp2_with (at_make; refine wpList_make_own _ rfl _ _ 36 rfl w.heap.size 9 i0 (.string ⟨#[]⟩) 1 Try.underlying36 hi hz0 hz1 .i64 .i64 _ (xs.length + ys.length) rfl rfl ?c1 ?c2 ?c3 ?c4 ?c5)
  · go_ret
    exact ⟨rfl, Below.refl _ _⟩
  case c1 => push_cast; rfl
  case c2 => rw [hz2]; omega
  case c3 => unfold maxLen; omega
  case c4 => exact Nat.le_refl _
  intro w1 hown1 hg1
  have HO := Lib.hid hown1
  have HB1 : Hid (Below w.heap.size w w1) := (Below.refl _ w).grown hg1 (Nat.le_refl _) (fun k e => by cases e)
  clear hown1 hg1
  go_wp2
  go_loopw [5, 6] (fun v i wr => ∃ k : Nat, k ≤ xs.length ∧ i = .int .i64 k ∧ .slice (some ⟨w.heap.size, 0, none⟩) k (xs.length + ys.length) = v ∧ wr.ownsRow w.heap.size 9 1 (.slice (some ⟨w.heap.size, 0, none⟩) k (xs.length + ys.length)) k (strVals ([] ++ xs.take k)) ∧ Below w.heap.size w wr) (fun _ i _ => xs.length - (intOf i).toNat)
  case atStart => exact ⟨0, Nat.zero_le _, rfl, rfl, HO.out, HB1.out⟩
  case round =>
    obtain ⟨k, hk, rfl, rfl, hown, hb⟩ := hrel
    have HB0 := Lib.hid hb
    have hs0 : w.heap.size ≤ wr.heap.size := hb.size
    clear hb HO HB1
    by_cases hlt : k < xs.length
    · have hc1 := (HX.out.below HB0.out (Nat.le_refl _)).at hlt
      have hsn := strVals_snoc [] xs k hlt
      obtain ⟨ha, hbw⟩ := HX.out.ad (by omega)
      subst ha
      obtain ⟨s, hs⟩ : ∃ s, s = xs[k] := ⟨_, rfl⟩
      rw [← hs] at hc1 hsn
      have HS := Lib.hid hsn
      clear hs hsn
      go_wp2_with (at_builtin; refine wpList_append_fits _ rfl _ _ 36 rfl w.heap.size 9 i0 1 Try.underlying36 hi hz1 w.heap.size k (xs.length + ys.length) (strVals ([] ++ xs.take k)) rfl (hown.alloc _) ⟨wr.heap.size, 0, none⟩ 1 1 [.string s] rfl rfl (one1 _ _ _) (ocs _) (by omega) ?_)
      intro w3 hown3 hg3
      have R1 : w3.ownsRow w.heap.size 9 1 (.slice (some ⟨w.heap.size, 0, none⟩) (k + 1) (xs.length + ys.length)) (k + 1) (strVals ([] ++ xs.take (k + 1))) := by rw [HS.out]; exact hown3
      have R2 : Below w.heap.size w w3 := (HB0.out.alloc hs0 _).grown hg3 (by simp; omega) (fun j e => by cases e; exact Nat.le_refl _)
      have R := Lib.hid (And.intro R1 R2)
      clear R1 R2 hown3 hg3 hown
      go_wp2
      go_roundw
      case rel => exact ⟨k + 1, by omega, by go_num, rfl, R.out.1, R.out.2⟩
      case measure => simp [intOf]; omega
    · have hkn : k = xs.length := by omega
      subst hkn
      have HO : Hid (wr.ownsRow w.heap.size 9 1 (.slice (some ⟨w.heap.size, 0, none⟩) xs.length (xs.length + ys.length)) xs.length (strVals (xs ++ ys.take 0))) := Lib.hid (by
        rw [List.take_length] at hown
        simpa using hown)
      clear hown
      go_wp2
      go_loopw [5, 7] (fun v i wr => ∃ k : Nat, k ≤ ys.length ∧ i = .int .i64 k ∧ .slice (some ⟨w.heap.size, 0, none⟩) (xs.length + k) (xs.length + ys.length) = v ∧ wr.ownsRow w.heap.size 9 1 (.slice (some ⟨w.heap.size, 0, none⟩) (xs.length + k) (xs.length + ys.length)) (xs.length + k) (strVals (xs ++ ys.take k)) ∧ Below w.heap.size w wr) (fun _ i _ => ys.length - (intOf i).toNat)
      case atStart => exact ⟨0, Nat.zero_le _, rfl, rfl, HO.out, HB0.out⟩
      case round =>
        clear HO HB0
        obtain ⟨k, hk, rfl, rfl, hown, hb⟩ := hrel
        have HB0 := Lib.hid hb
        have hs0 : w.heap.size ≤ wr.heap.size := hb.size
        clear hb
        by_cases hlt : k < ys.length
        · have hc1 := (HY.out.below HB0.out (Nat.le_refl _)).at hlt
          have hsn := strVals_snoc xs ys k hlt
          obtain ⟨ha, hbw⟩ := HY.out.ad (by omega)
          subst ha
          obtain ⟨s, hs⟩ : ∃ s, s = ys[k] := ⟨_, rfl⟩
          rw [← hs] at hc1 hsn
          have HS := Lib.hid hsn
          clear hs hsn
          go_wp2_with (at_builtin; refine wpList_append_fits _ rfl _ _ 36 rfl w.heap.size 9 i0 1 Try.underlying36 hi hz1 w.heap.size (xs.length + k) (xs.length + ys.length) (strVals (xs ++ ys.take k)) rfl (hown.alloc _) ⟨wr.heap.size, 0, none⟩ 1 1 [.string s] rfl rfl (one1 _ _ _) (ocs _) (by omega) ?_)
          intro w3 hown3 hg3
          have R1 : w3.ownsRow w.heap.size 9 1 (.slice (some ⟨w.heap.size, 0, none⟩) (xs.length + (k + 1)) (xs.length + ys.length)) (xs.length + (k + 1)) (strVals (xs ++ ys.take (k + 1))) := by rw [HS.out]; exact hown3
          have R2 : Below w.heap.size w w3 := (HB0.out.alloc hs0 _).grown hg3 (by simp; omega) (fun j e => by cases e; exact Nat.le_refl _)
          have R := Lib.hid (And.intro R1 R2)
          clear R1 R2 hown3 hg3 hown
          go_wp2
          go_roundw
          case rel => exact ⟨k + 1, by omega, by go_num, rfl, R.out.1, R.out.2⟩
          case measure => simp [intOf]; omega
        · have hkn : k = ys.length := by omega
          subst hkn
          rw [List.take_length] at hown
          have hl0 := (hown.lt w.heap.size rfl).2
          have hIS : IsStrs wr (some ⟨w.heap.size, 0, none⟩) w.heap.size 0 (xs ++ ys) := by
            refine ⟨fun _ => ⟨rfl, hl0⟩, fun j x hj => ?_, fun x hm => ?_, by rw [List.length_append]; unfold maxLen; omega⟩
            · have hjl := (List.getElem?_eq_some_iff.1 hj).1
              rw [Nat.zero_add, hown.cellAt j (by rw [List.length_append] at hjl; omega)]
              exact strVals_at _ j x hj
            · rcases List.mem_append.1 hm with hm | hm
              · exact HX.out.size x hm
              · exact HY.out.size x hm
          have hzs := zz7 (some ⟨w.heap.size, 0, none⟩) (xs.length + ys.length) w.heap.size 0 (xs ++ ys) wr hIS (by rw [List.length_append]; omega)
          rw [List.length_append] at hzs
          have HZS := Lib.hid hzs
          have htt : tot (xs ++ ys) ≤ 1048576 := by unfold tot at ht ⊢; rw [List.map_append, List.sum_append]; omega
          have hx1 : tot xs ≤ 1048576 := by omega
          have hx2 : tot ys ≤ 1048576 := by omega
          have hjx := joined_le [59, 32] xs
          have hjy := joined_le [59, 32] ys
          have hbx : (bs (joined [59, 32] xs)).size ≤ 2097152 := by rw [bs_size]; simp only [List.length_cons, List.length_nil] at hjx; omega
          have hby : (bs (joined [59, 32] ys)).size ≤ 2097152 := by rw [bs_size]; simp only [List.length_cons, List.length_nil] at hjy; omega
          clear hzs hIS hown hjx hjy
          go_wp2_with fail
          refine HZS.out.mono ?_
          rintro e w5 ⟨P1, rfl, hP1, hb5⟩
          have HP1 := Lib.hid hP1
          have HB5 : Hid (Below w.heap.size w w5) := HB0.out.trans (hb5.mono hs0)
          clear hP1 hb5
          go_wp2_with fail
          refine (seq_str P1 (xs ++ ys) _ htt (by rw [List.length_append]; omega) HP1.out).mono ?_
          rintro e w6 ⟨rfl, hb6⟩
          have HB6 : Hid (Below w.heap.size w w6) := HB5.out.trans (hb6.mono HB5.out.size)
          clear hb6
          go_wp2_with fail
          refine (zz7 a1 c1 b1 o1 xs _ (HX.out.below HB6.out (Nat.le_refl _)) (by omega)).mono ?_
          rintro e w7 ⟨P2, rfl, hP2, hb7⟩
          have HP2 := Lib.hid hP2
          have HB7 : Hid (Below w.heap.size w w7) := HB6.out.trans (hb7.mono HB6.out.size)
          clear hP2 hb7
          go_wp2_with fail
          refine (seq_str P2 xs _ hx1 (by omega) HP2.out).mono ?_
          rintro e w8 ⟨rfl, hb8⟩
          have HB8 : Hid (Below w.heap.size w w8) := HB7.out.trans (hb8.mono HB7.out.size)
          clear hb8
          go_wp2_with fail
          refine (zz7 a2 c2 b2 o2 ys _ (HY.out.below HB8.out (Nat.le_refl _)) (by omega)).mono ?_
          rintro e w9 ⟨P3, rfl, hP3, hb9⟩
          have HP3 := Lib.hid hP3
          have HB9 : Hid (Below w.heap.size w w9) := HB8.out.trans (hb9.mono HB8.out.size)
          clear hP3 hb9
          go_wp2_with fail
          refine (seq_str P3 ys _ hx2 (by omega) HP3.out).mono ?_
          rintro e w10 ⟨rfl, hb10⟩
          have HB10 : Hid (Below w.heap.size w w10) := HB9.out.trans (hb10.mono HB9.out.size)
          clear hb10
          go_wp2
          go_ret
          refine ⟨ret_bool' ?_, HB10.out⟩
          rw [ByteArray.toList_eq, ByteArray.toList_eq, bs_list, joined_app' _ _ _ h3 h4]
          have e : joined [59, 32] xs ++ [59, 32] ++ joined [59, 32] ys = (bs (joined [59, 32] xs) ++ { data := #[59, 32] } ++ bs (joined [59, 32] ys) : ByteArray).data.toList := by
            simp [bs]
          rw [← e]
          exact beq_self_eq_true _

set_option maxHeartbeats 1000000 in
theorem s2_no (a1 a2 : Option Addr) (c1 c2 b1 b2 o1 o2 : Nat) (xs ys : List ByteArray) (w : World) (hx : IsStrs w a1 b1 o1 xs) (hy : IsStrs w a2 b2 o2 ys) (h : 65536 < xs.length ∨ 65536 < ys.length ∨ xs.length = 0 ∨ ys.length = 0) :
    Calls Try.prog 4 #[.slice a1 xs.length c1, .slice a2 ys.length c2] w fun e w' => e = .returned (.bool true) ∧ Below w.heap.size w w' := by
  have HX := Lib.hid hx
  have HY := Lib.hid hy
  have HH := Lib.hid h
  clear hx hy h
  go_enter Try.func4, Try.ntmps4
  go_wp2_with fail
  refine (zz9 a1 a2 c1 c2 b1 b2 o1 o2 xs ys _ HX.out HY.out).mono ?_
  rintro e w' ⟨r, rfl, rfl, hr⟩
  clear hr
  cases r
  · go_wp2
    go_ret
    exact ⟨rfl, Below.refl _ _⟩
  by_cases g1 : 65536 < xs.length
  · go_wp2
    go_ret
    exact ⟨rfl, Below.refl _ _⟩
  by_cases g2 : 65536 < ys.length
  · go_wp2
    go_ret
    exact ⟨rfl, Below.refl _ _⟩
  have h5 : xs.length = 0 ∨ ys.length = 0 := by have := HH.out; omega
  have H5 := Lib.hid h5
  clear h5
  go_wp2_with fail
  refine (zz6 a1 c1 b1 o1 xs _ HX.out).mono ?_
  rintro e w' ⟨m1, rfl, rfl⟩
  go_wp2_with fail
  refine (zz6 a2 c2 b2 o2 ys _ HY.out).mono ?_
  rintro e w' ⟨m2, rfl, rfl⟩
  rcases H5.out with h5 | h5
  · have t1 : ((xs.length : Int) == 0) = true := by simp only [beq_iff_eq]; omega
    clear h5 H5 HH
    go_wp2
    all_goals
      go_ret
      exact ⟨rfl, Below.refl _ _⟩
  · have t2 : ((ys.length : Int) == 0) = true := by simp only [beq_iff_eq]; omega
    clear h5 H5 HH
    go_wp2
    all_goals
      go_ret
      exact ⟨rfl, Below.refl _ _⟩

end Go.Proofs.Ytbmeeoehphdniaa
