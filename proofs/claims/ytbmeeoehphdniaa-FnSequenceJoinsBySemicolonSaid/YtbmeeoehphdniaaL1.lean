/-
  The walk of FnSequenceJoinsBySemicolon. No condition but those in each statement.
-/
import Derived.Test.YtbmeeoehphdniaaS
import Derived.Laws.BytesArg
import Derived.Deep.RegionWith
namespace Go.Proofs.Ytbmeeoehphdniaa
open Go.RowKit

theorem ownsRow_below {w w' : World} {base m g cap n size : Nat} {e : TypeId} {xs : List Value} (h : w.ownsRow base e size (.slice (some ⟨g, 0, none⟩) n cap) n xs) (hb : Below m w w') (hg : g < m) : w'.ownsRow base e size (.slice (some ⟨g, 0, none⟩) n cap) n xs := by
  refine ⟨h.1, ?_⟩
  rcases h.2 with hn | ⟨g', cap', cur, hv, hb1, hgg, rest⟩
  · exact .inl hn
  · refine .inr ⟨g', cap', cur, hv, hb1, ?_, rest⟩
    simp only [Value.slice.injEq, Option.some.injEq, Addr.mk.injEq, and_true, true_and] at hv
    obtain ⟨rfl, rfl⟩ := hv
    rw [hb.block g hg]
    exact hgg

set_option maxRecDepth 10000 in
set_option maxHeartbeats 4000000 in
theorem s1_yes (a : Option Addr) (c b o : Nat) (xs : List ByteArray) (w : World) (hx : IsStrs w a b o xs) (hlen : xs.length ≤ 65536) :
    Calls Try.prog 3 #[.slice a xs.length c] w fun e w' => e = .returned (.bool true) ∧ Below w.heap.size w w' := by
  obtain ⟨i0, hi, hz0, hz1, hz2⟩ := info_parts Try.info5'
  have HX := Lib.hid hx
  have hjl := Lib.hid (joined_len [59, 32] xs)
  have htk := Lib.hid (tot_take_le xs)
  clear hx
  go_enter Try.func3, Try.ntmps3
  go_wp2_with fail
  refine (zz5 a c b o xs _ HX.out).mono ?_
  rintro e w' ⟨r, rfl, rfl, hr⟩
  cases r
  · go_wp2
    go_ret
    exact ⟨rfl, Below.refl _ _⟩
  have hbd := hr rfl
  have ht : tot xs ≤ 1048576 := hbd.1
  clear hr hbd
  go_wp2_with fail
  refine (zz6 a c b o xs _ HX.out).mono ?_
  rintro e w' ⟨m1, rfl, rfl⟩
  go_wp2
  · go_ret
    exact ⟨rfl, Below.refl _ _⟩
  go_loopw [3, 4] (fun v i wr => ∃ (k : Nat) (v' : Value), k ≤ xs.length ∧ i = .int .i64 k ∧ v' = v ∧ Buf wr w.heap.size v' (joined [59, 32] (xs.take k)) ∧ Below w.heap.size w wr) (fun _ i _ => xs.length - (intOf i).toNat)
  case atStart => exact ⟨0, _, Nat.zero_le _, rfl, rfl, World.ownsRow_nil _ _ _ _, Below.refl _ _⟩
  case round =>
    obtain ⟨k, v, hk, rfl, rfl, hbuf, hb⟩ := hrel
    have HB0 := Lib.hid hb
    have hs0 : w.heap.size ≤ wr.heap.size := hb.size
    clear hb
    obtain ⟨L0, hL0⟩ : ∃ X, X = joined [59, 32] (xs.take k) := ⟨_, rfl⟩
    have hl0 : L0.length ≤ 2097152 := by
      have h1 := hjl.out k hk
      have h2 := htk.out k
      rw [hL0]
      simp only [List.length_cons, List.length_nil] at h1
      omega
    rw [← hL0] at hbuf
    have HL0 := Lib.hid hL0
    clear hL0
    by_cases hlt : k < xs.length
    · have hj := joined_snoc [59, 32] xs k hlt
      have hc1 := HX.out.at hlt
      have tz1 := tot_take xs k hlt
      have tz1' := htk.out (k + 1)
      obtain ⟨ha, hbw⟩ := HX.out.ad (by omega)
      subst ha
      obtain ⟨s, hs⟩ : ∃ s, s = xs[k] := ⟨_, rfl⟩
      rw [← hs] at hc1 hj tz1
      have hsz : s.size ≤ 1048576 := by omega
      have HJ := Lib.hid hj
      clear hs hj tz1 tz1'
      by_cases hk0 : k = 0
      · have hk0' : ¬ (0 : Int) < (k : Int) := by omega
        have HK := Lib.hid hk0
        clear hk0
        have cw : wr.cell? ⟨b, o + k, none⟩ = some (.string s) := (HB0.out.cell (p := ⟨b, o + k, none⟩) hbw).trans hc1
        go_wp2_with (at_builtin; refine Lib.wpList_append_own_string _ rfl _ _ 35 9 rfl w.heap.size 5 i0 Try.underlying35 Try.underlying9 hi hz0 hz1 hz2 v L0.length (Lib.byteCells L0) rfl hbuf s rfl (by unfold maxLen; omega) (by omega) hs0 ?_)
        intro v1 w1 ho1 hg1 hn1
        have hb1 : Buf w1 w.heap.size v1 (L0 ++ s.data.toList) := Buf.next (news := Lib.strCells s) ho1 rfl rfl (Lib.strCells_eq _)
        have HB1 : Hid (Below w.heap.size w w1) := HB0.out.grown hg1 hs0 (fun j e => (World.ownsRow.lt hbuf j e).1)
        have hs1 : w.heap.size ≤ w1.heap.size := HB1.out.size
        obtain ⟨L1, hL1⟩ : ∃ X, X = L0 ++ s.data.toList := ⟨_, rfl⟩
        have hl1 : L1.length ≤ 4000000 := by rw [hL1]; simp only [List.length_append, size_list]; omega
        rw [← hL1] at hb1
        have HL1 := Lib.hid hL1
        clear hL1 ho1 hg1 hn1 hbuf
        have e5 : L1 = joined [59, 32] (xs.take (k + 1)) := by rw [HL1.out, HJ.out, if_pos HK.out, ← HL0.out]; simp
        rw [e5] at hb1
        have R := Lib.hid (And.intro hb1 HB1.out)
        clear hb1 e5
        go_wp2
        go_roundw
        case rel => exact ⟨k + 1, _, by omega, by go_num, rfl, R.out.1, R.out.2⟩
        case measure => simp [intOf]; omega
      · have hk0' : (0 : Int) < (k : Int) := by omega
        have HK := Lib.hid hk0
        clear hk0
        go_wp2_with (at_builtin; refine wpList_append_own _ rfl _ _ 35 rfl w.heap.size 5 i0 (.int .u8 0) 1 1 Try.underlying35 hi hz0 hz1 hz2 rfl (by decide) v L0.length (Lib.byteCells L0) rfl (World.ownsRow.alloc hbuf _) ⟨wr.heap.size, 0, none⟩ 2 2 [.int .u8 59, .int .u8 32] rfl rfl (one2 _ _ _ _) (ocb2 _ _) (by unfold maxLen; omega) (by omega) (by simp; omega) ?_)
        intro v2 w2 ho2 hg2 hn2
        have hb2 : Buf w2 w.heap.size v2 (L0 ++ [59, 32]) := Buf.next ho2 rfl rfl rfl
        have HB2 : Hid (Below w.heap.size w w2) := (HB0.out.alloc hs0 _).grown hg2 (by simp; omega) (fun j e => (World.ownsRow.lt hbuf j e).1)
        have hs2 : w.heap.size ≤ w2.heap.size := HB2.out.size
        obtain ⟨L2, hL2⟩ : ∃ X, X = L0 ++ [59, 32] := ⟨_, rfl⟩
        have hl2 : L2.length ≤ 2097154 := by rw [hL2]; simp only [List.length_append, List.length_cons, List.length_nil]; omega
        rw [← hL2] at hb2
        have HL2 := Lib.hid hL2
        clear hL2 ho2 hg2 hn2 hbuf
        have cw : w2.cell? ⟨b, o + k, none⟩ = some (.string s) := (HB2.out.cell (p := ⟨b, o + k, none⟩) hbw).trans hc1
        go_wp2_with (at_builtin; refine Lib.wpList_append_own_string _ rfl _ _ 35 9 rfl w.heap.size 5 i0 Try.underlying35 Try.underlying9 hi hz0 hz1 hz2 v2 L2.length (Lib.byteCells L2) rfl hb2 s rfl (by unfold maxLen; omega) (by omega) hs2 ?_)
        intro v1 w1 ho1 hg1 hn1
        have hb1 : Buf w1 w.heap.size v1 (L2 ++ s.data.toList) := Buf.next (news := Lib.strCells s) ho1 rfl rfl (Lib.strCells_eq _)
        have HB1 : Hid (Below w.heap.size w w1) := HB2.out.grown hg1 hs2 (fun j e => (World.ownsRow.lt hb2 j e).1)
        have hs1 : w.heap.size ≤ w1.heap.size := HB1.out.size
        obtain ⟨L1, hL1⟩ : ∃ X, X = L2 ++ s.data.toList := ⟨_, rfl⟩
        have hl1 : L1.length ≤ 4000000 := by rw [hL1]; simp only [List.length_append, size_list]; omega
        rw [← hL1] at hb1
        have HL1 := Lib.hid hL1
        clear hL1 ho1 hg1 hn1 hb2
        have e5 : L1 = joined [59, 32] (xs.take (k + 1)) := by rw [HL1.out, HL2.out, HJ.out, if_neg HK.out, ← HL0.out]; simp
        rw [e5] at hb1
        have R := Lib.hid (And.intro hb1 HB1.out)
        clear hb1 e5
        go_wp2
        go_roundw
        case rel => exact ⟨k + 1, _, by omega, by go_num, rfl, R.out.1, R.out.2⟩
        case measure => simp [intOf]; omega
    · have hkn : k = xs.length := by omega
      subst hkn
      have HLF : Hid (L0 = joined [59, 32] xs) := Lib.hid (by rw [HL0.out, List.take_length])
      clear HL0
      have HZS := Lib.hid (zz7 a c b o xs wr.drew (HX.out.below HB0.out.drew (Nat.le_refl _)) (by omega))
      rcases hbuf.2 with ⟨rfl, h0⟩ | ⟨g, cap, cur, rfl, hge, hgg, hr⟩
      · have hcv : ∀ W : World, (convert 35 9 (.slice none 0 0)).run Try.prog W = .ok (.string ByteArray.empty) W := fun W => run_convert_bytes_nil (P := Try.prog) (w := W) 35 5 Try.underlying35 Try.underlying5 0 0 9 Try.underlying9
        have hz : L0 = [] := List.eq_nil_of_length_eq_zero h0
        have HZ := Lib.hid hz
        clear hz h0 hbuf
        go_wp2_with fail
        go_region_with (first
          | (go_at_call 7; refine HZS.out.mono ?_; rintro e w5 ⟨P, rfl, hP, hb5⟩)
          | (go_at_call 8; refine (seq_str P xs w5 ht (by omega) hP).mono ?_; rintro e w6 ⟨rfl, hb6⟩))
        all_goals
          have HB6 : Hid (Below w.heap.size w w6) := Lib.hid ((HB0.out.drew.trans (hb5.mono (by show w.heap.size ≤ wr.heap.size; omega))).trans (hb6.mono (by have := hb5.size; simp at this; omega)))
          clear hb5 hb6 hP
          go_wp2
          go_ret
          refine ⟨ret_bool' ?_, HB6.out⟩
          rw [← HLF.out, HZ.out, ByteArray.toList_eq, bs_list]
          rfl
      · have hgl : g < wr.heap.size := (Array.getElem?_eq_some_iff.1 hgg).1
        have HCV : Hid (∀ W : World, Below wr.heap.size wr W → (convert 35 9 (.slice (some ⟨g, 0, none⟩) L0.length cap)).run Try.prog W = .ok (.string ⟨L0.toArray⟩) W) := fun W hW =>
          run_convert_bytes_back (P := Try.prog) W 35 9 5 ⟨g, 0, none⟩ cap L0 Try.underlying35 Try.underlying5 Try.underlying9 (fun j hj => World.ownsRow.cells (ownsRow_below hbuf hW hgl) (g := g) rfl j _ (by simp [Lib.byteCells, hj]))
        have hcv0 := HCV.out wr.drew (Below.refl _ _).drew
        clear hbuf hgg hr
        go_wp2_with fail
        go_region_with (first
          | (go_at_call 7; refine HZS.out.mono ?_; rintro e w5 ⟨P, rfl, hP, hb5⟩; have hcv5 := HCV.out w5 ((Below.refl wr.heap.size wr).drew.trans hb5))
          | (go_at_call 8; refine (seq_str P xs w5 ht (by omega) hP).mono ?_; rintro e w6 ⟨rfl, hb6⟩; have hcv6 := HCV.out w6 (((Below.refl wr.heap.size wr).drew.trans hb5).trans (hb6.mono hb5.size))))
        all_goals
          have HB6 : Hid (Below w.heap.size w w6) := Lib.hid ((HB0.out.drew.trans (hb5.mono (by show w.heap.size ≤ wr.heap.size; omega))).trans (hb6.mono (by have := hb5.size; simp at this; omega)))
          clear hb5 hb6 hP
          go_wp2
          go_ret
          refine ⟨ret_bool' ?_, HB6.out⟩
          rw [HLF.out, ByteArray.toList_eq, bs_list]
          exact beq_self_eq_true _

set_option maxHeartbeats 1000000 in
theorem s1_no (a : Option Addr) (c b o : Nat) (xs : List ByteArray) (w : World) (hx : IsStrs w a b o xs) (hlen : 65536 < xs.length) :
    Calls Try.prog 3 #[.slice a xs.length c] w fun e w' => e = .returned (.bool true) ∧ Below w.heap.size w w' := by
  have HX := Lib.hid hx
  clear hx
  go_enter Try.func3, Try.ntmps3
  go_wp2_with fail
  refine (zz5 a c b o xs _ HX.out).mono ?_
  rintro e w' ⟨r, rfl, rfl, hr⟩
  clear hr
  cases r
  · go_wp2
    go_ret
    exact ⟨rfl, Below.refl _ _⟩
  · go_wp2
    go_ret
    exact ⟨rfl, Below.refl _ _⟩

end Go.Proofs.Ytbmeeoehphdniaa
