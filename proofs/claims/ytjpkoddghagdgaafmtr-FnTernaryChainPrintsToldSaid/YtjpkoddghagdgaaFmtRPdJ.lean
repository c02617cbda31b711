/-
  Texts joined by a separator, as plain lists; bytes that a call has put together, read as a string; zzCallText. No condition but those in each statement.
-/
import Derived.Test.YtjpkoddghagdgaaFmtRPdB
import Derived.Test.YtjpkoddghagdgaaFmtRShelf
import Derived.Lib.AppendStr
import Derived.Laws.IdiomStrings
namespace Go.Proofs.YtjpkoddghagdgaaFmtR
open Go.RowKit Go.Extern.Stop Go.Stop Go.Extern

theorem Tryf.info5' : (Tryf.prog.info? 5).map (fun i => (i.zero, i.size, i.bytes)) = some (some (.int .u8 0), 1, 1) := by kernel_rfl

def joined (sep : List UInt8) (xs : List ByteArray) : List UInt8 := Lib.join (xs.map (·.data.toList)) sep

theorem joined_nil (sep : List UInt8) : joined sep [] = [] := rfl
theorem joined_snoc (sep : List UInt8) (xs : List ByteArray) (k : Nat) (h : k < xs.length) :
    joined sep (xs.take (k + 1)) = joined sep (xs.take k) ++ ((if k = 0 then [] else sep) ++ xs[k].data.toList) := by
  match xs, h with
  | x :: r, h =>
    match k, h with
    | 0, _ => simp [joined, Lib.join_one, Lib.join_nil]
    | m + 1, h =>
      have hm : m < r.length := by simpa using h
      unfold joined
      rw [List.take_succ_cons, List.take_succ_cons, List.map_cons, List.map_cons, Lib.join_cons, Lib.join_cons, List.map_take, List.map_take,
        Lib.joinTail_take_succ sep (r.map (·.data.toList)) m (r[m].data.toList) (by simp [List.getElem?_eq_getElem hm])]
      simp
theorem joined_len (sep : List UInt8) (xs : List ByteArray) : ∀ k, k ≤ xs.length → (joined sep (xs.take k)).length ≤ tot (xs.take k) + sep.length * k
  | 0, _ => by simp [joined, Lib.join_nil]
  | k + 1, h => by
    have hk : k < xs.length := h
    have ih := joined_len sep xs k (by omega)
    rw [joined_snoc sep xs k hk, tot_take xs k hk, List.length_append, List.length_append]
    have : (if k = 0 then ([] : List UInt8) else sep).length ≤ sep.length := by split <;> simp
    have e : xs[k].data.toList.length = xs[k].size := rfl
    rw [Nat.mul_succ]
    omega
theorem joined_le (sep : List UInt8) (xs : List ByteArray) : (joined sep xs).length ≤ tot xs + sep.length * xs.length := by
  have := joined_len sep xs xs.length (Nat.le_refl _)
  rwa [List.take_length] at this

theorem tot_take_le (xs : List ByteArray) (k : Nat) : tot (xs.take k) ≤ tot xs := by
  have : tot xs = tot (xs.take k) + tot (xs.drop k) := by
    unfold tot
    rw [← List.sum_append, ← List.map_append, List.take_append_drop]
  omega

/-- The bytes l stand in the row that v owns. -/
def Buf (w : World) (B : Nat) (v : Value) (l : List UInt8) : Prop := w.ownsRow B 5 1 v l.length (Lib.byteCells l)

theorem Buf.next {w : World} {B n m : Nat} {v : Value} {l l2 : List UInt8} {news : List Value} (h : w.ownsRow B 5 1 v (n + m) (Lib.byteCells l ++ news)) (hn : n = l.length) (hm : m = l2.length) (hq : news = Lib.byteCells l2) : Buf w B v (l ++ l2) := by
  subst hn hm hq
  unfold Buf
  rw [List.length_append, Lib.byteCells_append]
  exact h

def callTxt (callee : ByteArray) (xs : List ByteArray) : List UInt8 := callee.data.toList ++ [40] ++ joined [44, 32] xs ++ [41]

def GaveStr (s : List UInt8) (w : World) (e : Ending) (w' : World) : Prop := e = .returned (.string (bs s)) ∧ Below w.heap.size w w'

theorem one1 (w : World) (x : Value) (t : TypeId) : ∀ j u, [x][j]? = some u → (w.alloc (.cells #[x] t)).cell? ((⟨w.heap.size, 0, none⟩ : Addr).add j) = some u := by
  intro j u hj
  match j, hj with
  | 0, hj => simp at hj; subst hj; simp [Addr.add]
theorem one2 (w : World) (x y : Value) (t : TypeId) : ∀ j u, [x, y][j]? = some u → (w.alloc (.cells #[x, y] t)).cell? ((⟨w.heap.size, 0, none⟩ : Addr).add j) = some u := by
  intro j u hj
  match j, hj with
  | 0, hj => simp at hj; subst hj; simp [Addr.add]
  | 1, hj => simp at hj; subst hj; simp [Addr.add]
theorem ocb1 (a : Int) : ∀ u ∈ [Value.int .u8 a], u.oneCell' = true := by
  intro u hu; simp at hu; subst hu; rfl
theorem ocb2 (a b : Int) : ∀ u ∈ [Value.int .u8 a, .int .u8 b], u.oneCell' = true := by
  intro u hu; simp at hu; rcases hu with rfl | rfl <;> rfl

set_option maxRecDepth 10000 in
set_option maxHeartbeats 2000000 in
/-- zzCallText. -/
theorem zz24 (hd : ByteArray) (a : Option Addr) (c b o : Nat) (xs : List ByteArray) (w : World) (hh : hd.size ≤ 1048576) (ht : tot xs ≤ 1048576) (hn : xs.length ≤ 65536) (hx : IsStrs w a b o xs) :
    Calls Tryf.prog 24 #[.string hd, .slice a xs.length c] w fun e w' => GaveStr (callTxt hd xs) w e w' := by
  obtain ⟨i0, hi, hz0, hz1, hz2⟩ := info_parts Tryf.info5'
  have HX := Lib.hid hx
  have hjl := Lib.hid (joined_len [44, 32] xs)
  have htk : Hid (∀ k, k ≤ xs.length → tot (xs.take k) ≤ tot xs) := fun k _ => tot_take_le xs k
  clear hx
  go_enter Tryf.func24, Tryf.ntmps24
  go_wp2_with (at_make; refine wpList_make_own _ rfl _ _ 35 rfl w.heap.size 5 i0 (.int .u8 0) 1 Tryf.underlying35 hi hz0 hz1 .i64 .i64 _ (hd.size + 2) rfl rfl ?c1 ?c2 ?c3 ?c4 ?c5)
  case c1 => push_cast; rfl
  case c2 => rw [hz2]; omega
  case c3 => unfold maxLen; omega
  case c4 => exact Nat.le_refl _
  intro w1 hown1 hg1
  have HB1 : Hid (Below w.heap.size w w1) := (Below.refl _ w).grown hg1 (Nat.le_refl _) (fun k e => by cases e)
  have hs1 : w.heap.size ≤ w1.heap.size := HB1.out.size
  go_wp2_with (at_builtin; refine Lib.wpList_append_own_string _ rfl _ _ 35 9 rfl w.heap.size 5 i0 Tryf.underlying35 Tryf.underlying9 hi hz0 hz1 hz2 _ 0 [] rfl hown1 hd rfl ?d1 ?d2 ?d3 ?d4)
  case d1 => unfold maxLen; omega
  case d2 => omega
  case d3 => exact hs1
  intro v2 w2 hown2 hg2 _
  have hb2 : Buf w2 w.heap.size v2 hd.data.toList := by unfold Buf; rw [← Lib.strCells_eq]; exact hown2
  have HB2 : Hid (Below w.heap.size w w2) := HB1.out.grown hg2 hs1 (fun k e => (hown1.lt k e).1)
  have hs2 : w.heap.size ≤ w2.heap.size := HB2.out.size
  have hdl : hd.data.toList.length = hd.size := rfl
  clear hown2 hg2 hown1 hg1
  go_wp2_with (at_builtin; refine wpList_append_own _ rfl _ _ 35 rfl w.heap.size 5 i0 (.int .u8 0) 1 1 Tryf.underlying35 hi hz0 hz1 hz2 rfl (by decide) v2 hd.data.toList.length (Lib.byteCells hd.data.toList) rfl (World.ownsRow.alloc hb2 _) ⟨w2.heap.size, 0, none⟩ 1 1 [.int .u8 40] rfl rfl (one1 _ _ _) (ocb1 _) ?e1 ?e2 ?e3 ?e4)
  case e1 => unfold maxLen; omega
  case e2 => omega
  case e3 => simp; omega
  intro v3 w3 hown3 hg3 _
  have hb3 : Buf w3 w.heap.size v3 (hd.data.toList ++ [40]) := Buf.next hown3 rfl rfl rfl
  have HB3 : Hid (Below w.heap.size w w3) := (HB2.out.alloc hs2 _).grown hg3 (by simp; omega) (fun k e => (World.ownsRow.lt hb2 k e).1)
  have HBF3 := Lib.hid hb3
  clear hown3 hg3 hb2 hb3 HB1 HB2
  go_wp2
  go_loopw [5, 6] (fun v i wr => ∃ (k : Nat) (u : Value), k ≤ xs.length ∧ i = .int .i64 k ∧ u = v ∧ Buf wr w.heap.size u (hd.data.toList ++ [40] ++ joined [44, 32] (xs.take k)) ∧ Below w.heap.size w wr) (fun _ i _ => xs.length - (intOf i).toNat)
  case atStart => exact ⟨0, _, Nat.zero_le _, rfl, rfl, by simpa [joined_nil] using HBF3.out, HB3.out⟩
  case round =>
    obtain ⟨k, v, hk, rfl, rfl, hbuf, hb⟩ := hrel
    clear HBF3 HB3
    have HBB := Lib.hid hb
    have hsr : w.heap.size ≤ wr.heap.size := hb.size
    clear hb
    obtain ⟨L, hL⟩ : ∃ L, L = hd.data.toList ++ [40] ++ joined [44, 32] (xs.take k) := ⟨_, rfl⟩
    have hLl : L.length ≤ 4194304 := by
      have h1 := hjl.out k hk
      have h2 := htk.out k hk
      rw [hL]
      simp only [List.length_append, List.length_cons, List.length_nil] at h1 ⊢
      omega
    rw [← hL] at hbuf
    by_cases hlt : k < xs.length
    · have hj := joined_snoc [44, 32] xs k hlt
      have hcell := (HX.out.below HBB.out (Nat.le_refl _)).at hlt
      have hz := HX.out.sizeAt hlt
      have hzt := tot_take xs k hlt
      have hzt2 := htk.out (k + 1) hlt
      obtain ⟨ha, hbw⟩ := HX.out.ad (by omega)
      subst ha
      obtain ⟨s, hs⟩ : ∃ s, s = xs[k] := ⟨_, rfl⟩
      rw [← hs] at hcell hj hz hzt
      clear hs
      have hsz : s.size ≤ 1048576 := by omega
      have HJ := Lib.hid hj
      have HL := Lib.hid hL
      clear hj hL hzt hzt2 hz
      by_cases hk0 : k = 0
      · have hk0' : ¬ (0 : Int) < (k : Int) := by omega
        have HK := Lib.hid hk0
        clear hk0
        go_wp2_with (at_builtin; refine Lib.wpList_append_own_string _ rfl _ _ 35 9 rfl w.heap.size 5 i0 Tryf.underlying35 Tryf.underlying9 hi hz0 hz1 hz2 v L.length (Lib.byteCells L) rfl hbuf s rfl (by unfold maxLen; omega) (by omega) hsr ?_)
        intro v4 w4 hown4 hg4 hnil4
        have R1 : Buf w4 w.heap.size v4 (L ++ s.data.toList) := Buf.next (news := Lib.strCells s) hown4 rfl rfl (Lib.strCells_eq s)
        have R2 := HBB.out.grown hg4 hsr (fun j e => (World.ownsRow.lt hbuf j e).1)
        have e5 : L ++ s.data.toList = hd.data.toList ++ [40] ++ joined [44, 32] (xs.take (k + 1)) := by rw [HJ.out, HL.out, if_pos HK.out]; simp
        rw [e5] at R1
        have R := Lib.hid (And.intro R1 R2)
        clear R1 R2 e5 hown4 hg4 hnil4 hbuf
        go_wp2
        go_roundw
        case rel => exact ⟨k + 1, _, by omega, by go_num, rfl, R.out.1, R.out.2⟩
        case measure => simp [intOf]; omega
      · have hk0' : (0 : Int) < (k : Int) := by omega
        have HK := Lib.hid hk0
        clear hk0
        go_wp2_with (at_builtin; refine wpList_append_own _ rfl _ _ 35 rfl w.heap.size 5 i0 (.int .u8 0) 1 1 Tryf.underlying35 hi hz0 hz1 hz2 rfl (by decide) v L.length (Lib.byteCells L) rfl (World.ownsRow.alloc hbuf _) ⟨wr.heap.size, 0, none⟩ 2 2 [.int .u8 44, .int .u8 32] rfl rfl (one2 _ _ _ _) (ocb2 _ _) (by unfold maxLen; omega) (by omega) (by simp; omega) ?_)
        intro v4 w4 hown4 hg4 hnil4
        have hb4 : Buf w4 w.heap.size v4 (L ++ [44, 32]) := Buf.next hown4 rfl rfl rfl
        have HB4 : Hid (Below w.heap.size w w4) := (HBB.out.alloc hsr _).grown hg4 (by simp; omega) (fun j e => (World.ownsRow.lt hbuf j e).1)
        have hs4 : w.heap.size ≤ w4.heap.size := HB4.out.size
        have hcell4 : w4.cell? ⟨b, o + k, none⟩ = some (.string s) := by
          rw [← hcell]
          exact (HB4.out.cell (p := ⟨b, o + k, none⟩) hbw).trans (HBB.out.cell (p := ⟨b, o + k, none⟩) hbw).symm
        obtain ⟨M, hM⟩ : ∃ M, M = L ++ [44, 32] := ⟨_, rfl⟩
        have hMl : M.length ≤ 4194306 := by rw [hM]; simp; omega
        rw [← hM] at hb4
        have HM := Lib.hid hM
        clear hM hown4 hg4 hnil4 hbuf hcell
        go_wp2_with (at_builtin; refine Lib.wpList_append_own_string _ rfl _ _ 35 9 rfl w.heap.size 5 i0 Tryf.underlying35 Tryf.underlying9 hi hz0 hz1 hz2 v4 M.length (Lib.byteCells M) rfl hb4 s rfl (by unfold maxLen; omega) (by omega) hs4 ?_)
        intro v5 w5 hown5 hg5 hnil5
        have R1 : Buf w5 w.heap.size v5 (M ++ s.data.toList) := Buf.next (news := Lib.strCells s) hown5 rfl rfl (Lib.strCells_eq s)
        have R2 := HB4.out.grown hg5 hs4 (fun j e => (World.ownsRow.lt hb4 j e).1)
        have e5 : M ++ s.data.toList = hd.data.toList ++ [40] ++ joined [44, 32] (xs.take (k + 1)) := by rw [HM.out, HJ.out, HL.out, if_neg HK.out]; simp
        rw [e5] at R1
        have R := Lib.hid (And.intro R1 R2)
        clear R1 R2 e5 hown5 hg5 hnil5 hb4
        go_wp2
        go_roundw
        case rel => exact ⟨k + 1, _, by omega, by go_num, rfl, R.out.1, R.out.2⟩
        case measure => simp [intOf]; omega
    · have hkn : k = xs.length := by omega
      subst hkn
      rw [List.take_length] at hL
      have HL := Lib.hid hL
      clear hL
      go_wp2_with (at_builtin; refine wpList_append_own _ rfl _ _ 35 rfl w.heap.size 5 i0 (.int .u8 0) 1 1 Tryf.underlying35 hi hz0 hz1 hz2 rfl (by decide) v L.length (Lib.byteCells L) rfl (World.ownsRow.alloc hbuf _) ⟨wr.heap.size, 0, none⟩ 1 1 [.int .u8 41] rfl rfl (one1 _ _ _) (ocb1 _) (by unfold maxLen; omega) (by omega) (by simp; omega) ?_)
      intro v4 w4 hown4 hg4 hnil4
      have hb4 : Buf w4 w.heap.size v4 (L ++ [41]) := Buf.next hown4 rfl rfl rfl
      have HB4 : Hid (Below w.heap.size w w4) := (HBB.out.alloc hsr _).grown hg4 (by simp; omega) (fun j e => (World.ownsRow.lt hbuf j e).1)
      obtain ⟨M, hM⟩ : ∃ M, M = L ++ [41] := ⟨_, rfl⟩
      have hMp : 0 < M.length := by rw [hM]; simp
      rw [← hM] at hb4
      have HM := Lib.hid hM
      clear hM hown4 hg4 hnil4 hbuf
      rcases hb4.2 with ⟨-, h0⟩ | ⟨g, cap, cur, rfl, -, -, -, -, -, -⟩
      · omega
      · have hcv := run_convert_bytes_back (P := Tryf.prog) w4 35 9 5 ⟨g, 0, none⟩ cap M Tryf.underlying35 Tryf.underlying5 Tryf.underlying9 (fun j hj => World.ownsRow.cells hb4 (g := g) rfl j _ (by simp [Lib.byteCells, hj]))
        clear hb4
        go_wp2
        go_ret
        refine ⟨?_, HB4.out⟩
        rw [HM.out, HL.out]
        rfl

end Go.Proofs.YtjpkoddghagdgaaFmtR
