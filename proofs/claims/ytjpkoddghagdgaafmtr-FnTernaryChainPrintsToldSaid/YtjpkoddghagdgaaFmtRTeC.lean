/-
  The walk of FnTernaryChainPrints. No condition but those in each statement.
-/
import Derived.Test.YtjpkoddghagdgaaFmtRTeB
import Derived.Deep.RegionWith
namespace Go.Proofs.YtjpkoddghagdgaaFmtR
open Go.RowKit Go.Extern.Stop Go.Stop Go.Extern

theorem cell_new (w : World) (cs : Array Value) (t : TypeId) (k : Nat) : (w.alloc (.cells cs t)).cell? ⟨w.heap.size, k, none⟩ = cs[k]? := by
  have h := cell_of_row (w.alloc (.cells cs t)) w.heap.size k cs t (0, 0) (heap_alloc_new w _)
  exact h

theorem ownsRow_below' {w w' : World} {base m g cap n size : Nat} {e : TypeId} {xs : List Value} (h : w.ownsRow base e size (.slice (some ⟨g, 0, none⟩) n cap) n xs) (hb : Below m w w') (hg : g < m) : w'.ownsRow base e size (.slice (some ⟨g, 0, none⟩) n cap) n xs := by
  refine ⟨h.1, ?_⟩
  rcases h.2 with hn | ⟨g', cap', cur, hv, hb1, hgg, rest⟩
  · exact .inl hn
  · refine .inr ⟨g', cap', cur, hv, hb1, ?_, rest⟩
    simp only [Value.slice.injEq, Option.some.injEq, Addr.mk.injEq, and_true, true_and] at hv
    obtain ⟨rfl, rfl⟩ := hv
    rw [hb.block g hg]
    exact hgg

/-- One round of the chain's making, whichever leaf is made first. -/
theorem tern_step {last c e : ByteArray} {L : List Pair} {u : Value} {wr : World} {cs c1 c2 : Array Value} {t1 t2 t3 : TypeId} {i j : Nat}
    (hij : (i = wr.heap.size ∧ j = wr.heap.size + 1 ∧ c1[11]? = some (.string c) ∧ c2[11]? = some (.string e)) ∨ (i = wr.heap.size + 1 ∧ j = wr.heap.size ∧ c1[11]? = some (.string e) ∧ c2[11]? = some (.string c)))
    (h11 : cs[11]? = some (.bool true)) (h12 : cs[12]? = some (.iface 63 (.pointer (some ⟨i, 0, none⟩)))) (h13 : cs[13]? = some (.iface 63 (.pointer (some ⟨j, 0, none⟩)))) (h14 : cs[14]? = some u) (hT : Tern last wr L u) :
    Tern last ((((wr.alloc (.cells c1 t1)).alloc (.cells c2 t2)).alloc (.cells cs t3)).drew) ((c, e) :: L) (.iface 84 (.pointer (some ⟨wr.heap.size + 1 + 1, 0, none⟩))) ∧ Below wr.heap.size wr ((((wr.alloc (.cells c1 t1)).alloc (.cells c2 t2)).alloc (.cells cs t3)).drew) := by
  have e1 : (wr.alloc (.cells c1 t1)).heap.size = wr.heap.size + 1 := by simp
  have e2 : ((wr.alloc (.cells c1 t1)).alloc (.cells c2 t2)).heap.size = wr.heap.size + 1 + 1 := by simp
  have b2 : Below (wr.heap.size + 1 + 1) ((wr.alloc (.cells c1 t1)).alloc (.cells c2 t2)) ((((wr.alloc (.cells c1 t1)).alloc (.cells c2 t2)).alloc (.cells cs t3)).drew) := ((Below.refl _ _).alloc (by rw [e2]; exact Nat.le_refl _) _).drew
  have b1 := ((Below.refl (wr.heap.size + 1) _).alloc (by rw [e1]; exact Nat.le_refl _) (.cells c2 t2)).trans (b2.mono (by omega))
  have b0 := ((Below.refl wr.heap.size wr).alloc (Nat.le_refl _) (.cells c1 t1)).trans (b1.mono (by omega))
  have k1 : ∀ k, ((((wr.alloc (.cells c1 t1)).alloc (.cells c2 t2)).alloc (.cells cs t3)).drew).cell? ⟨wr.heap.size, k, none⟩ = c1[k]? := fun k =>
    (b1.cell (p := ⟨wr.heap.size, k, none⟩) (by show wr.heap.size < wr.heap.size + 1; omega)).trans (cell_new _ _ _ _)
  have k2 : ∀ k, ((((wr.alloc (.cells c1 t1)).alloc (.cells c2 t2)).alloc (.cells cs t3)).drew).cell? ⟨wr.heap.size + 1, k, none⟩ = c2[k]? := fun k => by
    refine (b2.cell (p := ⟨wr.heap.size + 1, k, none⟩) (by show wr.heap.size + 1 < wr.heap.size + 1 + 1; omega)).trans ?_
    rw [← e1]
    exact cell_new _ _ _ _
  have k3 : ∀ k, ((((wr.alloc (.cells c1 t1)).alloc (.cells c2 t2)).alloc (.cells cs t3)).drew).cell? ⟨wr.heap.size + 1 + 1, k, none⟩ = cs[k]? := fun k => by
    rw [← e2]
    exact cell_new _ _ _ _
  have hsz : ((((wr.alloc (.cells c1 t1)).alloc (.cells c2 t2)).alloc (.cells cs t3)).drew).heap.size = wr.heap.size + 1 + 1 + 1 := by
    show ((((wr.alloc (.cells c1 t1)).alloc (.cells c2 t2)).alloc (.cells cs t3))).heap.size = _
    simp
  refine ⟨⟨wr.heap.size + 1 + 1, u, rfl, ⟨by omega, (k3 11).trans h11, ?_, ?_, (k3 14).trans h14⟩, Tern.below b0 (Nat.le_refl _) L u hT⟩, b0⟩
  · rcases hij with ⟨rfl, rfl, h1, h2⟩ | ⟨rfl, rfl, h1, h2⟩
    · exact ⟨_, by omega, (k3 12).trans h12, (k1 11).trans h1⟩
    · exact ⟨_, by omega, (k3 12).trans h12, (k2 11).trans h2⟩
  · rcases hij with ⟨rfl, rfl, h1, h2⟩ | ⟨rfl, rfl, h1, h2⟩
    · exact ⟨_, by omega, (k3 13).trans h13, (k2 11).trans h2⟩
    · exact ⟨_, by omega, (k3 13).trans h13, (k1 11).trans h1⟩

set_option maxHeartbeats 400000 in
/-- zzIdent. -/
theorem zz31 (s : ByteArray) (w : World) : Calls Tryf.prog 31 #[.string s] w fun e w' => e = .returned (.pointer (some ⟨w.heap.size, 0, none⟩)) ∧
    w' = w.alloc (.cells #[.int .i64 0, .int .i64 0, .nilIface, .int .u64 0, .pointer none, .pointer none, .bool false, .bool false, .bool false, .bool false, .bool false, .string s] 90) := by
  go_enter Tryf.func31, Tryf.ntmps31
  go_wp2
  go_ret
  exact ⟨rfl, rfl⟩

theorem zip_drop (xs ys : List ByteArray) (k : Nat) (h1 : k < xs.length) (h2 : k < ys.length) : (xs.zip ys).drop k = (xs[k], ys[k]) :: (xs.zip ys).drop (k + 1) := by
  have h : k < (xs.zip ys).length := by rw [List.length_zip]; omega
  rw [List.drop_eq_getElem_cons h, List.getElem_zip]

set_option maxRecDepth 100000 in
set_option maxHeartbeats 4000000 in
theorem t9_yes (F : Interp) (a1 a2 : Option Addr) (q1 q2 b1 b2 o1 o2 : Nat) (xs ys : List ByteArray) (l : ByteArray) (w : World) (hF : F.told.answers w.tape) (hl : l.size ≤ 1048576) (hx : IsStrs w a1 b1 o1 xs) (hy : IsStrs w a2 b2 o2 ys)
    (h1 : xs.length ≤ 256) (heq : ys.length = xs.length) (h0 : 0 < xs.length) :
    Calls Tryf.prog 9 #[.slice a1 xs.length q1, .slice a2 xs.length q2, .string l] w fun e w' => e = .returned (.bool true) ∧ Below w.heap.size w w' := by
  obtain ⟨i0, hi, hz0, hz1, hz2⟩ := info_parts Tryf.info5'
  have HX := Lib.hid hx
  have HY := Lib.hid hy
  have HEQ := Lib.hid heq
  have hle1 : xs.length ≤ ys.length := by omega
  have hle2 : ys.length ≤ xs.length := by omega
  have hz29 := zz29 a1 a2 q1 q2 b1 b2 o1 o2 xs ys l w (by omega) hx hy
  have hz30 := zz30 a2 q2 b2 o2 ys w hy
  rw [heq] at hz29 hz30
  have HZ29 := Lib.hid hz29
  have HZ30 := Lib.hid hz30
  have t2 : ((xs.length : Int) == 0) = false := by simp only [beq_eq_false_iff_ne, ne_eq]; omega
  clear hx hy heq hz29 hz30
  go_enter Tryf.func9, Tryf.ntmps9
  go_wp2_with fail
  refine HZ29.out.mono ?_
  rintro e w' ⟨r, rfl, rfl, hr⟩
  cases r
  · go_wp2
    go_ret
    exact ⟨rfl, Below.refl _ _⟩
  have hbd := hr rfl
  have hbx : tot xs ≤ 1048576 := by omega
  have hby : tot ys ≤ 1048576 := by omega
  have hwt : wt (xs.zip ys) ≤ 2099200 := by have := wt_zip xs ys; omega
  have HWT := Lib.hid hwt
  clear hr hbd hwt
  go_wp2_with fail
  refine (zz30 a1 q1 b1 o1 xs _ HX.out).mono ?_
  rintro e w' ⟨m1, rfl, rfl⟩
  go_wp2_with fail
  refine HZ30.out.mono ?_
  rintro e w' ⟨m2, rfl, rfl⟩
  go_wp2_with fail
  · go_ret
    exact ⟨rfl, Below.refl _ _⟩
  refine (zz31 l _).mono ?_
  rintro e w' ⟨rfl, rfl⟩
  go_wp2
  go_loopw [8, 9] (fun top i wr => ∃ (m : Nat) (u : Value), m ≤ xs.length ∧ .int .i64 ((m : Int) - 1) = i ∧ u = top ∧ Tern l wr ((xs.zip ys).drop m) u ∧ Below w.heap.size w wr) (fun _ i _ => (intOf i + 1).toNat)
  case atStart =>
    refine ⟨xs.length, _, Nat.le_refl _, rfl, rfl, ?_, (Below.refl _ w).alloc (Nat.le_refl _) _⟩
    rw [List.drop_eq_nil_of_le (by rw [List.length_zip]; omega)]
    exact ⟨_, rfl, by simp, by simp [go_sem]⟩
  case round =>
    obtain ⟨m, u, hm, rfl, rfl, hT, hb⟩ := hrel
    have HT := Lib.hid hT
    have HBB := Lib.hid hb
    have hsr := hb.size
    clear hT hb
    by_cases hlt : 0 < m
    · obtain ⟨k, rfl⟩ : ∃ k, m = k + 1 := ⟨m - 1, by omega⟩
      have ek : (((k + 1 : Nat)) : Int) - 1 = (k : Int) := by omega
      rw [ek]
      have hk1 : k < xs.length := by omega
      have hk2 : k < ys.length := by omega
      have hcx := (HX.out.below HBB.out (Nat.le_refl _)).at hk1
      have hcy := (HY.out.below HBB.out (Nat.le_refl _)).at hk2
      obtain ⟨ha1, hbw1⟩ := HX.out.ad (by omega)
      obtain ⟨ha2, hbw2⟩ := HY.out.ad (by omega)
      subst ha1 ha2
      have hbl1 : b1 < wr.heap.size := by omega
      have hbl2 : b2 < wr.heap.size := by omega
      have hzd := zip_drop xs ys k hk1 hk2
      obtain ⟨c, hc⟩ : ∃ c, c = xs[k] := ⟨_, rfl⟩
      obtain ⟨e, he⟩ : ∃ e, e = ys[k] := ⟨_, rfl⟩
      rw [← hc] at hcx hzd
      rw [← he] at hcy hzd
      have HZ := Lib.hid hzd
      clear hzd hc he
      obtain ⟨T, p, rfl⟩ := Tern.shape _ _ HT.out
      go_wp2_with fail
      go_region_calls
      all_goals
        go_wp2
        go_roundw
        case rel =>
          refine ⟨k, _, by omega, by go_num, rfl, ?_⟩
          rw [HZ.out]
          first
            | exact ⟨(tern_step (.inl ⟨rfl, rfl, rfl, rfl⟩) rfl rfl rfl rfl HT.out).1, HBB.out.trans ((tern_step (.inl ⟨rfl, rfl, rfl, rfl⟩) rfl rfl rfl rfl HT.out).2.mono hsr)⟩
            | exact ⟨(tern_step (.inr ⟨rfl, rfl, rfl, rfl⟩) rfl rfl rfl rfl HT.out).1, HBB.out.trans ((tern_step (.inr ⟨rfl, rfl, rfl, rfl⟩) rfl rfl rfl rfl HT.out).2.mono hsr)⟩
        case measure => simp [intOf]
    · have hm0 : m = 0 := by omega
      subst hm0
      obtain ⟨wt, hw⟩ : ∃ wt, wt = wr := ⟨_, rfl⟩
      subst hw
      have HT' : Hid (Tern l wt (xs.zip ys) u) := by have := HT.out; rwa [List.drop_zero] at this
      have HXt := Lib.hid (HX.out.below HBB.out (Nat.le_refl _))
      have HYt := Lib.hid (HY.out.below HBB.out (Nat.le_refl _))
      clear HT
      rw [show (((0 : Nat)) : Int) - 1 = -1 from rfl]
      go_wp2
      go_loopw [11, 12] (fun v i wr => ∃ (k : Nat) (v' : Value), k ≤ xs.length ∧ i = .int .i64 k ∧ v' = v ∧ Buf wr wt.heap.size v' (pre ((xs.zip ys).take k)) ∧ Below wt.heap.size wt wr) (fun _ i _ => xs.length - (intOf i).toNat)
      case atStart => exact ⟨0, _, Nat.zero_le _, rfl, rfl, World.ownsRow_nil _ _ _ _, Below.refl _ _⟩
      case round =>
        obtain ⟨k, v, hk, rfl, rfl, hbuf, hb⟩ := hrel
        have HB0 := Lib.hid hb
        have hs0 : wt.heap.size ≤ wr.heap.size := hb.size
        clear hb
        obtain ⟨L0, hL0⟩ : ∃ X, X = pre ((xs.zip ys).take k) := ⟨_, rfl⟩
        have hl0 : L0.length ≤ 2099200 := by rw [hL0]; exact Nat.le_trans (pre_len _) (Nat.le_trans (wt_take_le _ k) HWT.out)
        rw [← hL0] at hbuf
        have HL0 := Lib.hid hL0
        clear hL0
        by_cases hlt : k < xs.length
        · have hk2 : k < ys.length := by omega
          have hc1 := HXt.out.at hlt
          have hc2 := HYt.out.at hk2
          have tz1 := tot_take xs k hlt
          have tz1' := tot_take_le xs (k + 1)
          have tz2 := tot_take ys k hk2
          have tz2' := tot_take_le ys (k + 1)
          obtain ⟨ha1, hbw1⟩ := HXt.out.ad (by omega)
          obtain ⟨ha2, hbw2⟩ := HYt.out.ad (by omega)
          subst ha1 ha2
          have hpz := pre_snoc (xs.zip ys) k (by rw [List.length_zip]; omega)
          rw [List.getElem_zip] at hpz
          obtain ⟨c, hc⟩ : ∃ c, c = xs[k] := ⟨_, rfl⟩
          obtain ⟨e, he⟩ : ∃ e, e = ys[k] := ⟨_, rfl⟩
          rw [← hc] at hc1 tz1 hpz
          rw [← he] at hc2 tz2 hpz
          have hcs : c.size ≤ 1048576 := by omega
          have hes : e.size ≤ 1048576 := by omega
          have HP := Lib.hid hpz
          clear hc he tz1 tz1' tz2 tz2' hpz
          by_cases hk0 : k = 0
          · have hk0' : ¬ (0 : Int) < (k : Int) := by omega
            have HK := Lib.hid hk0
            clear hk0
            have cw0 : wr.cell? ⟨b1, o1 + k, none⟩ = some (.string c) := (HB0.out.cell (p := ⟨b1, o1 + k, none⟩) hbw1).trans hc1
            go_wp2_with (at_builtin; refine Lib.wpList_append_own_string _ rfl _ _ 35 9 rfl wt.heap.size 5 i0 Tryf.underlying35 Tryf.underlying9 hi hz0 hz1 hz2 v L0.length (Lib.byteCells L0) rfl hbuf c rfl (by unfold maxLen; omega) (by omega) hs0 ?_)
            intro v1 w1 ho1 hg1 hn1
            have hb1 : Buf w1 wt.heap.size v1 (L0 ++ c.data.toList) := Buf.next (news := Lib.strCells c) ho1 rfl rfl (Lib.strCells_eq _)
            have HB1 : Hid (Below wt.heap.size wt w1) := HB0.out.grown hg1 hs0 (fun j e => (World.ownsRow.lt hbuf j e).1)
            have hs1 : wt.heap.size ≤ w1.heap.size := HB1.out.size
            obtain ⟨L1, hL1⟩ : ∃ X, X = L0 ++ c.data.toList := ⟨_, rfl⟩
            have hl1 : L1.length ≤ 4000000 := by rw [hL1]; simp only [List.length_append, size_list]; omega
            rw [← hL1] at hb1
            have HL1 := Lib.hid hL1
            clear hL1 ho1 hg1 hn1 hbuf
            go_wp2_with (at_builtin; refine Lib.wpList_append_own_string _ rfl _ _ 35 9 rfl wt.heap.size 5 i0 Tryf.underlying35 Tryf.underlying9 hi hz0 hz1 hz2 v1 L1.length (Lib.byteCells L1) rfl hb1 ⟨#[32, 63, 32]⟩ rfl (by have : (⟨#[32, 63, 32]⟩ : ByteArray).size = 3 := rfl; unfold maxLen; omega) (by have : (⟨#[32, 63, 32]⟩ : ByteArray).size = 3 := rfl; omega) hs1 ?_)
            intro v2 w2 ho2 hg2 hn2
            have hb2 : Buf w2 wt.heap.size v2 (L1 ++ [32, 63, 32]) := Buf.next (news := Lib.strCells ⟨#[32, 63, 32]⟩) ho2 rfl rfl (Lib.strCells_eq _)
            have HB2 : Hid (Below wt.heap.size wt w2) := HB1.out.grown hg2 hs1 (fun j e => (World.ownsRow.lt hb1 j e).1)
            have hs2 : wt.heap.size ≤ w2.heap.size := HB2.out.size
            obtain ⟨L2, hL2⟩ : ∃ X, X = L1 ++ [32, 63, 32] := ⟨_, rfl⟩
            have hl2 : L2.length ≤ 4000003 := by rw [hL2]; simp only [List.length_append, List.length_cons, List.length_nil]; omega
            rw [← hL2] at hb2
            have HL2 := Lib.hid hL2
            clear hL2 ho2 hg2 hn2 hb1
            have cw2 : w2.cell? ⟨b2, o2 + k, none⟩ = some (.string e) := (HB2.out.cell (p := ⟨b2, o2 + k, none⟩) hbw2).trans hc2
            go_wp2_with (at_builtin; refine Lib.wpList_append_own_string _ rfl _ _ 35 9 rfl wt.heap.size 5 i0 Tryf.underlying35 Tryf.underlying9 hi hz0 hz1 hz2 v2 L2.length (Lib.byteCells L2) rfl hb2 e rfl (by unfold maxLen; omega) (by omega) hs2 ?_)
            intro v3 w3 ho3 hg3 hn3
            have hb3 : Buf w3 wt.heap.size v3 (L2 ++ e.data.toList) := Buf.next (news := Lib.strCells e) ho3 rfl rfl (Lib.strCells_eq _)
            have HB3 : Hid (Below wt.heap.size wt w3) := HB2.out.grown hg3 hs2 (fun j e => (World.ownsRow.lt hb2 j e).1)
            have hs3 : wt.heap.size ≤ w3.heap.size := HB3.out.size
            obtain ⟨L3, hL3⟩ : ∃ X, X = L2 ++ e.data.toList := ⟨_, rfl⟩
            have hl3 : L3.length ≤ 6000000 := by rw [hL3]; simp only [List.length_append, size_list]; omega
            rw [← hL3] at hb3
            have HL3 := Lib.hid hL3
            clear hL3 ho3 hg3 hn3 hb2
            go_wp2_with (at_builtin; refine Lib.wpList_append_own_string _ rfl _ _ 35 9 rfl wt.heap.size 5 i0 Tryf.underlying35 Tryf.underlying9 hi hz0 hz1 hz2 v3 L3.length (Lib.byteCells L3) rfl hb3 ⟨#[32, 58, 32]⟩ rfl (by have : (⟨#[32, 58, 32]⟩ : ByteArray).size = 3 := rfl; unfold maxLen; omega) (by have : (⟨#[32, 58, 32]⟩ : ByteArray).size = 3 := rfl; omega) hs3 ?_)
            intro v4 w4 ho4 hg4 hn4
            have hb4 : Buf w4 wt.heap.size v4 (L3 ++ [32, 58, 32]) := Buf.next (news := Lib.strCells ⟨#[32, 58, 32]⟩) ho4 rfl rfl (Lib.strCells_eq _)
            have HB4 : Hid (Below wt.heap.size wt w4) := HB3.out.grown hg4 hs3 (fun j e => (World.ownsRow.lt hb3 j e).1)
            have hs4 : wt.heap.size ≤ w4.heap.size := HB4.out.size
            obtain ⟨L4, hL4⟩ : ∃ X, X = L3 ++ [32, 58, 32] := ⟨_, rfl⟩
            have hl4 : L4.length ≤ 6000003 := by rw [hL4]; simp only [List.length_append, List.length_cons, List.length_nil]; omega
            rw [← hL4] at hb4
            have HL4 := Lib.hid hL4
            clear hL4 ho4 hg4 hn4 hb3
            have e5 : L4 = pre ((xs.zip ys).take (k + 1)) := by rw [HL4.out, HL3.out, HL2.out, HL1.out, HP.out, if_pos HK.out, ← HL0.out]; simp [clause]
            rw [e5] at hb4
            have R := Lib.hid (And.intro hb4 HB4.out)
            clear hb4 e5
            go_wp2
            go_roundw
            case rel => exact ⟨k + 1, _, by omega, by go_num, rfl, R.out.1, R.out.2⟩
            case measure => simp [intOf]; omega
          · have hk0' : (0 : Int) < (k : Int) := by omega
            have HK := Lib.hid hk0
            clear hk0
            go_wp2_with (at_builtin; refine wpList_append_own _ rfl _ _ 35 rfl wt.heap.size 5 i0 (.int .u8 0) 1 1 Tryf.underlying35 hi hz0 hz1 hz2 rfl (by decide) v L0.length (Lib.byteCells L0) rfl (World.ownsRow.alloc hbuf _) ⟨wr.heap.size, 0, none⟩ 1 1 [.int .u8 40] rfl rfl (one1 _ _ _) (ocb1 _) (by unfold maxLen; omega) (by omega) (by simp; omega) ?_)
            intro v5 w5 ho5 hg5 hn5
            have hb5 : Buf w5 wt.heap.size v5 (L0 ++ [40]) := Buf.next ho5 rfl rfl rfl
            have HB5 : Hid (Below wt.heap.size wt w5) := (HB0.out.alloc hs0 _).grown hg5 (by simp; omega) (fun j e => (World.ownsRow.lt hbuf j e).1)
            have hs5 : wt.heap.size ≤ w5.heap.size := HB5.out.size
            obtain ⟨L5, hL5⟩ : ∃ X, X = L0 ++ [40] := ⟨_, rfl⟩
            have hl5 : L5.length ≤ 2099201 := by rw [hL5]; simp only [List.length_append, List.length_cons, List.length_nil]; omega
            rw [← hL5] at hb5
            have HL5 := Lib.hid hL5
            clear hL5 ho5 hg5 hn5 hbuf
            have cw5 : w5.cell? ⟨b1, o1 + k, none⟩ = some (.string c) := (HB5.out.cell (p := ⟨b1, o1 + k, none⟩) hbw1).trans hc1
            go_wp2_with (at_builtin; refine Lib.wpList_append_own_string _ rfl _ _ 35 9 rfl wt.heap.size 5 i0 Tryf.underlying35 Tryf.underlying9 hi hz0 hz1 hz2 v5 L5.length (Lib.byteCells L5) rfl hb5 c rfl (by unfold maxLen; omega) (by omega) hs5 ?_)
            intro v1 w1 ho1 hg1 hn1
            have hb1 : Buf w1 wt.heap.size v1 (L5 ++ c.data.toList) := Buf.next (news := Lib.strCells c) ho1 rfl rfl (Lib.strCells_eq _)
            have HB1 : Hid (Below wt.heap.size wt w1) := HB5.out.grown hg1 hs5 (fun j e => (World.ownsRow.lt hb5 j e).1)
            have hs1 : wt.heap.size ≤ w1.heap.size := HB1.out.size
            obtain ⟨L1, hL1⟩ : ∃ X, X = L5 ++ c.data.toList := ⟨_, rfl⟩
            have hl1 : L1.length ≤ 4000000 := by rw [hL1]; simp only [List.length_append, size_list]; omega
            rw [← hL1] at hb1
            have HL1 := Lib.hid hL1
            clear hL1 ho1 hg1 hn1 hb5
            go_wp2_with (at_builtin; refine Lib.wpList_append_own_string _ rfl _ _ 35 9 rfl wt.heap.size 5 i0 Tryf.underlying35 Tryf.underlying9 hi hz0 hz1 hz2 v1 L1.length (Lib.byteCells L1) rfl hb1 ⟨#[32, 63, 32]⟩ rfl (by have : (⟨#[32, 63, 32]⟩ : ByteArray).size = 3 := rfl; unfold maxLen; omega) (by have : (⟨#[32, 63, 32]⟩ : ByteArray).size = 3 := rfl; omega) hs1 ?_)
            intro v2 w2 ho2 hg2 hn2
            have hb2 : Buf w2 wt.heap.size v2 (L1 ++ [32, 63, 32]) := Buf.next (news := Lib.strCells ⟨#[32, 63, 32]⟩) ho2 rfl rfl (Lib.strCells_eq _)
            have HB2 : Hid (Below wt.heap.size wt w2) := HB1.out.grown hg2 hs1 (fun j e => (World.ownsRow.lt hb1 j e).1)
            have hs2 : wt.heap.size ≤ w2.heap.size := HB2.out.size
            obtain ⟨L2, hL2⟩ : ∃ X, X = L1 ++ [32, 63, 32] := ⟨_, rfl⟩
            have hl2 : L2.length ≤ 4000003 := by rw [hL2]; simp only [List.length_append, List.length_cons, List.length_nil]; omega
            rw [← hL2] at hb2
            have HL2 := Lib.hid hL2
            clear hL2 ho2 hg2 hn2 hb1
            have cw2 : w2.cell? ⟨b2, o2 + k, none⟩ = some (.string e) := (HB2.out.cell (p := ⟨b2, o2 + k, none⟩) hbw2).trans hc2
            go_wp2_with (at_builtin; refine Lib.wpList_append_own_string _ rfl _ _ 35 9 rfl wt.heap.size 5 i0 Tryf.underlying35 Tryf.underlying9 hi hz0 hz1 hz2 v2 L2.length (Lib.byteCells L2) rfl hb2 e rfl (by unfold maxLen; omega) (by omega) hs2 ?_)
            intro v3 w3 ho3 hg3 hn3
            have hb3 : Buf w3 wt.heap.size v3 (L2 ++ e.data.toList) := Buf.next (news := Lib.strCells e) ho3 rfl rfl (Lib.strCells_eq _)
            have HB3 : Hid (Below wt.heap.size wt w3) := HB2.out.grown hg3 hs2 (fun j e => (World.ownsRow.lt hb2 j e).1)
            have hs3 : wt.heap.size ≤ w3.heap.size := HB3.out.size
            obtain ⟨L3, hL3⟩ : ∃ X, X = L2 ++ e.data.toList := ⟨_, rfl⟩
            have hl3 : L3.length ≤ 6000000 := by rw [hL3]; simp only [List.length_append, size_list]; omega
            rw [← hL3] at hb3
            have HL3 := Lib.hid hL3
            clear hL3 ho3 hg3 hn3 hb2
            go_wp2_with (at_builtin; refine Lib.wpList_append_own_string _ rfl _ _ 35 9 rfl wt.heap.size 5 i0 Tryf.underlying35 Tryf.underlying9 hi hz0 hz1 hz2 v3 L3.length (Lib.byteCells L3) rfl hb3 ⟨#[32, 58, 32]⟩ rfl (by have : (⟨#[32, 58, 32]⟩ : ByteArray).size = 3 := rfl; unfold maxLen; omega) (by have : (⟨#[32, 58, 32]⟩ : ByteArray).size = 3 := rfl; omega) hs3 ?_)
            intro v4 w4 ho4 hg4 hn4
            have hb4 : Buf w4 wt.heap.size v4 (L3 ++ [32, 58, 32]) := Buf.next (news := Lib.strCells ⟨#[32, 58, 32]⟩) ho4 rfl rfl (Lib.strCells_eq _)
            have HB4 : Hid (Below wt.heap.size wt w4) := HB3.out.grown hg4 hs3 (fun j e => (World.ownsRow.lt hb3 j e).1)
            have hs4 : wt.heap.size ≤ w4.heap.size := HB4.out.size
            obtain ⟨L4, hL4⟩ : ∃ X, X = L3 ++ [32, 58, 32] := ⟨_, rfl⟩
            have hl4 : L4.length ≤ 6000003 := by rw [hL4]; simp only [List.length_append, List.length_cons, List.length_nil]; omega
            rw [← hL4] at hb4
            have HL4 := Lib.hid hL4
            clear hL4 ho4 hg4 hn4 hb3
            have e5 : L4 = pre ((xs.zip ys).take (k + 1)) := by rw [HL4.out, HL3.out, HL2.out, HL1.out, HL5.out, HP.out, if_neg HK.out, ← HL0.out]; simp [clause]
            rw [e5] at hb4
            have R := Lib.hid (And.intro hb4 HB4.out)
            clear hb4 e5
            go_wp2
            go_roundw
            case rel => exact ⟨k + 1, _, by omega, by go_num, rfl, R.out.1, R.out.2⟩
            case measure => simp [intOf]; omega
        · have hkn : k = xs.length := by omega
          subst hkn
          have HL0' : Hid (L0 = pre (xs.zip ys)) := Lib.hid (by rw [HL0.out, List.take_of_length_le (by rw [List.length_zip]; omega)])
          clear HL0
          go_wp2_with (at_builtin; refine Lib.wpList_append_own_string _ rfl _ _ 35 9 rfl wt.heap.size 5 i0 Tryf.underlying35 Tryf.underlying9 hi hz0 hz1 hz2 v L0.length (Lib.byteCells L0) rfl hbuf l rfl (by unfold maxLen; omega) (by omega) hs0 ?_)
          intro v1 w1 ho1 hg1 hn1
          have hb1 : Buf w1 wt.heap.size v1 (L0 ++ l.data.toList) := Buf.next (news := Lib.strCells l) ho1 rfl rfl (Lib.strCells_eq _)
          have HB1 : Hid (Below wt.heap.size wt w1) := HB0.out.grown hg1 hs0 (fun j e => (World.ownsRow.lt hbuf j e).1)
          have hs1 : wt.heap.size ≤ w1.heap.size := HB1.out.size
          obtain ⟨L1, hL1⟩ : ∃ X, X = L0 ++ l.data.toList := ⟨_, rfl⟩
          have hl1 : L1.length ≤ 4000000 := by rw [hL1]; simp only [List.length_append, size_list]; omega
          rw [← hL1] at hb1
          have HL1 := Lib.hid hL1
          clear hL1 ho1 hg1 hn1 hbuf
          have HBF := Lib.hid hb1
          clear hb1
          go_wp2
          go_loopw [11, 13] (fun v i wr => ∃ (k : Nat) (v' : Value), 1 ≤ k ∧ k ≤ xs.length ∧ i = .int .i64 k ∧ v' = v ∧ Buf wr wt.heap.size v' (L1 ++ List.replicate (k - 1) 41) ∧ Below wt.heap.size wt wr) (fun _ i _ => xs.length - (intOf i).toNat)
          case atStart => exact ⟨1, _, Nat.le_refl _, h0, rfl, rfl, by simpa using HBF.out, HB1.out⟩
          case round =>
            obtain ⟨k, v, hk1, hk, rfl, rfl, hbuf, hb⟩ := hrel
            have HB2 := Lib.hid hb
            have hs2 : wt.heap.size ≤ wr.heap.size := hb.size
            clear hb
            obtain ⟨L2, hL2⟩ : ∃ X, X = L1 ++ List.replicate (k - 1) 41 := ⟨_, rfl⟩
            have hl2 : L2.length ≤ 4001000 := by rw [hL2]; simp only [List.length_append, List.length_replicate]; omega
            rw [← hL2] at hbuf
            have HL2 := Lib.hid hL2
            clear hL2
            by_cases hlt : k < xs.length
            · have hkp : 1 ≤ k := hk1
              go_wp2_with (at_builtin; refine wpList_append_own _ rfl _ _ 35 rfl wt.heap.size 5 i0 (.int .u8 0) 1 1 Tryf.underlying35 hi hz0 hz1 hz2 rfl (by decide) v L2.length (Lib.byteCells L2) rfl (World.ownsRow.alloc hbuf _) ⟨wr.heap.size, 0, none⟩ 1 1 [.int .u8 41] rfl rfl (one1 _ _ _) (ocb1 _) (by unfold maxLen; omega) (by omega) (by simp; omega) ?_)
              intro v3 w3 ho3 hg3 hn3
              have hb3 : Buf w3 wt.heap.size v3 (L2 ++ [41]) := Buf.next ho3 rfl rfl rfl
              have HB3 : Hid (Below wt.heap.size wt w3) := (HB2.out.alloc hs2 _).grown hg3 (by simp; omega) (fun j e => (World.ownsRow.lt hbuf j e).1)
              have hs3 : wt.heap.size ≤ w3.heap.size := HB3.out.size
              obtain ⟨L3, hL3⟩ : ∃ X, X = L2 ++ [41] := ⟨_, rfl⟩
              have hl3 : L3.length ≤ 4001001 := by rw [hL3]; simp only [List.length_append, List.length_cons, List.length_nil]; omega
              rw [← hL3] at hb3
              have HL3 := Lib.hid hL3
              clear hL3 ho3 hg3 hn3 hbuf
              have e5 : L3 = L1 ++ List.replicate (k + 1 - 1) 41 := by rw [HL3.out, HL2.out, List.append_assoc, ← List.replicate_succ', show k - 1 + 1 = k + 1 - 1 by omega]
              rw [e5] at hb3
              have R := Lib.hid (And.intro hb3 HB3.out)
              clear hb3 e5
              go_wp2
              go_roundw
              case rel => exact ⟨k + 1, _, by omega, by omega, by go_num, rfl, R.out.1, R.out.2⟩
              case measure => simp [intOf]; omega
            · have hkn : k = xs.length := by omega
              subst hkn
              obtain ⟨pc, pe, r, hzr⟩ : ∃ (pc pe : ByteArray) (r : List Pair), xs.zip ys = (pc, pe) :: r := by
                match h : xs.zip ys with
                | [] => have := congrArg List.length h; rw [List.length_zip] at this; simp only [List.length_nil] at this; omega
                | (pc, pe) :: r => exact ⟨pc, pe, r, rfl⟩
              have hrl : r.length + 1 = xs.length := by
                have := congrArg List.length hzr
                rw [List.length_zip] at this
                simp at this
                omega
              have HT2 := HT'.out
              rw [hzr] at HT2
              obtain ⟨P, v', rfl, hP, hr⟩ := HT2
              have HTS := Lib.hid (tern_str F l wr.drew (by show F.told.answers wr.tape; rw [HB2.out.tape, HBB.out.tape]; exact hF) r pc pe P v' (hP.below HB2.out.drew (Nat.le_refl _)) (Tern.below HB2.out.drew (Nat.le_refl _) r v' hr) (by have := HWT.out; rw [hzr] at this; omega))
              have HFIN : Hid (L2 = ternTxt l ((pc, pe) :: r)) := Lib.hid (by
                rw [HL2.out, HL1.out, HL0'.out, hzr, tern_eq, show r.length = xs.length - 1 by omega])
              have hpos : 0 < L2.length := by rw [HFIN.out, tern_eq]; simp [pre, clause]; omega
              clear hP hr hzr hrl
              rcases hbuf.2 with ⟨-, hn0⟩ | ⟨g, cap, cur, rfl, hge, hgg, -, -, -, -⟩
              · omega
              · have hgl : g < wr.heap.size := (Array.getElem?_eq_some_iff.1 hgg).1
                have HCV : Hid (∀ W : World, Below wr.heap.size wr W → (convert 35 9 (.slice (some ⟨g, 0, none⟩) L2.length cap)).run Tryf.prog W = .ok (.string ⟨L2.toArray⟩) W) := fun W hW =>
                  run_convert_bytes_back (P := Tryf.prog) W 35 9 5 ⟨g, 0, none⟩ cap L2 Tryf.underlying35 Tryf.underlying5 Tryf.underlying9 (fun j hj => World.ownsRow.cells (ownsRow_below' hbuf hW hgl) (g := g) rfl j _ (by simp [Lib.byteCells, hj]))
                have hcv0 := HCV.out wr.drew (Below.refl _ _).drew
                clear hbuf hgg
                go_wp2_with fail
                go_region_with (go_at_call 139; refine HTS.out.mono ?_; rintro x w6 ⟨rfl, hb6⟩; have hcv6 := HCV.out w6 ((Below.refl wr.heap.size wr).drew.trans hb6))
                all_goals
                  have HB6 : Hid (Below w.heap.size w w6) := Lib.hid ((HBB.out.trans (HB2.out.drew.mono hsr)).trans (hb6.mono (by show w.heap.size ≤ wr.heap.size; omega)))
                  clear hb6
                  go_wp2
                  go_ret
                  refine ⟨ret_bool' ?_, HB6.out⟩
                  rw [HFIN.out, ByteArray.toList_eq, bs_list]
                  exact beq_self_eq_true _

end Go.Proofs.YtjpkoddghagdgaaFmtR
