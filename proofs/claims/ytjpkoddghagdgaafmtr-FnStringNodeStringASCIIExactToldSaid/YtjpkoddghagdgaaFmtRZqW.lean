/-
  The walks of zzAllASCII and zzQuoteASCII. No condition but those in each statement.
-/
import Derived.Test.YtjpkoddghagdgaaFmtRQuote
import Derived.Test.YtjpkoddghagdgaaFmtRStr
import Derived.LoopTactic
import Derived.StillTailTactics
import Derived.Deep.RegionLaw
import Derived.Laws.IdiomStrings
import Derived.Lib.UnsafeStr
namespace Go.Proofs.YtjpkoddghagdgaaFmtR
open Go.RowKit Go.Extern.Stop Go.Stop Go.Extern

theorem Tryf.info5 : (Tryf.prog.info? 5).map (fun i => (i.zero, i.size, i.bytes)) = some (some (.int .u8 0), 1, 1) := by kernel_rfl

theorem new1 (w : World) (x : Value) (t : TypeId) : ∀ j u, [x][j]? = some u → (w.alloc (.cells #[x] t)).cell? ((⟨w.heap.size, 0, none⟩ : Addr).add j) = some u := by
  intro j u hj
  match j, hj with
  | 0, hj => simp at hj; subst hj; simp [Addr.add]
theorem new2 (w : World) (x y : Value) (t : TypeId) : ∀ j u, [x, y][j]? = some u → (w.alloc (.cells #[x, y] t)).cell? ((⟨w.heap.size, 0, none⟩ : Addr).add j) = some u := by
  intro j u hj
  match j, hj with
  | 0, hj => simp at hj; subst hj; simp [Addr.add]
  | 1, hj => simp at hj; subst hj; simp [Addr.add]
theorem new4 (w : World) (x y z v : Value) (t : TypeId) : ∀ j u, [x, y, z, v][j]? = some u → (w.alloc (.cells #[x, y, z, v] t)).cell? ((⟨w.heap.size, 0, none⟩ : Addr).add j) = some u := by
  intro j u hj
  match j, hj with
  | 0, hj => simp at hj; subst hj; simp [Addr.add]
  | 1, hj => simp at hj; subst hj; simp [Addr.add]
  | 2, hj => simp at hj; subst hj; simp [Addr.add]
  | 3, hj => simp at hj; subst hj; simp [Addr.add]

theorem oc1 (a : Int) : ∀ u ∈ [Value.int .u8 a], u.oneCell' = true := by
  intro u hu; simp at hu; subst hu; rfl
theorem oc2 (a b : Int) : ∀ u ∈ [Value.int .u8 a, .int .u8 b], u.oneCell' = true := by
  intro u hu; simp at hu; rcases hu with rfl | rfl <;> rfl
theorem oc4 (a b c d : Int) : ∀ u ∈ [Value.int .u8 a, .int .u8 b, .int .u8 c, .int .u8 d], u.oneCell' = true := by
  intro u hu; simp at hu; rcases hu with rfl | rfl | rfl | rfl <;> rfl

/-- The bytes that stand in the buffer behind k rounds. -/
def Zq (s : ByteArray) (k : Nat) : List UInt8 := 34 :: (s.data.toList.take k).flatMap QuotePlain.q1

theorem Zq_zero (s : ByteArray) : Zq s 0 = [34] := rfl
theorem Zq_succ (s : ByteArray) (k : Nat) (h : k < s.size) : Zq s (k + 1) = Zq s k ++ QuotePlain.q1 s[k] := by
  unfold Zq
  have h' : k < s.data.toList.length := h
  rw [List.take_succ_eq_append_getElem h', List.flatMap_append]
  simp only [List.flatMap_cons, List.flatMap_nil, List.append_nil, List.cons_append]
  rfl
theorem q1_len_all : ∀ n : Fin 256, (QuotePlain.q1 (UInt8.ofNat n.val)).length ≤ 4 := by decide +kernel
theorem q1_len (c : UInt8) : (QuotePlain.q1 c).length ≤ 4 := by
  have := q1_len_all ⟨c.toNat, UInt8.toNat_lt c⟩
  simpa using this
theorem Zq_len (s : ByteArray) : ∀ k, (Zq s k).length ≤ 4 * k + 1
  | 0 => by simp [Zq]
  | k + 1 => by
    by_cases h : k < s.size
    · rw [Zq_succ s k h, List.length_append]
      have := q1_len s[k]
      have := Zq_len s k
      omega
    · have e : s.data.toList.take (k + 1) = s.data.toList.take k := by
        have hl : s.data.toList.length ≤ k := by rw [size_list]; omega
        rw [List.take_of_length_le hl, List.take_of_length_le (by omega)]
      have := Zq_len s k
      unfold Zq at this ⊢
      rw [e]; omega
theorem Zq_full (s : ByteArray) : Zq s s.size ++ [34] = QuotePlain.zq s.data.toList := by
  unfold Zq QuotePlain.zq
  have : s.data.toList.take s.size = s.data.toList := by rw [← size_list]; exact List.take_length
  rw [this]; rfl

set_option maxHeartbeats 400000 in
theorem zz16_yes (s : ByteArray) (w : World) (hs : s.size ≤ 140737488355328) (h : ∀ k (hk : k < s.size), s[k].toNat < 128) :
    Calls Tryf.prog 16 #[.string s] w fun e w' => e = .returned (.bool true) ∧ w = w' := by
  have H := Lib.hid h
  clear h
  go_enter Tryf.func16, Tryf.ntmps16
  go_wp2
  go_loop [3] (fun i => ∃ k : Nat, k ≤ s.size ∧ i = .int .i64 k) (fun i => s.size - (intOf i).toNat)
  case atStart => exact ⟨0, Nat.zero_le _, rfl⟩
  case round =>
    obtain ⟨k, hk, rfl⟩ := hrel
    by_cases hlt : k < s.size
    · have c0 := H.out k hlt
      have c1 : ¬ (128 : Int) ≤ (s[k]'hlt).toNat := by omega
      go_wp2
      go_round
      case rel => exact ⟨k + 1, by omega, by go_num⟩
      case measure => simp [intOf]; omega
    · go_wp2
      go_ret
      exact ⟨rfl, rfl⟩

set_option maxHeartbeats 400000 in
theorem zz16_no (s : ByteArray) (w : World) (hs : s.size ≤ 140737488355328) (j : Nat) (hj : j < s.size) (h : 128 ≤ s[j].toNat) :
    Calls Tryf.prog 16 #[.string s] w fun e w' => e = .returned (.bool false) ∧ w = w' := by
  have H := Lib.hid h
  clear h
  go_enter Tryf.func16, Tryf.ntmps16
  go_wp2
  go_loop [3] (fun i => ∃ k : Nat, k ≤ j ∧ i = .int .i64 k) (fun i => s.size - (intOf i).toNat)
  case atStart => exact ⟨0, Nat.zero_le _, rfl⟩
  case round =>
    obtain ⟨k, hk, rfl⟩ := hrel
    have hlt : k < s.size := by omega
    by_cases hb : 128 ≤ (s[k]'hlt).toNat
    · have c1 : (128 : Int) ≤ (s[k]'hlt).toNat := by omega
      go_wp2
      go_ret
      exact ⟨rfl, rfl⟩
    · have c1 : ¬ (128 : Int) ≤ (s[k]'hlt).toNat := by omega
      have hne : k ≠ j := by
        intro e
        subst e
        exact hb H.out
      have hlt2 : k + 1 ≤ j := by omega
      clear hne
      go_wp2
      go_round
      case rel => exact ⟨k + 1, by omega, by go_num⟩
      case measure => simp [intOf]; omega

theorem u8_nel {a c : UInt8} (n : Nat) (hc : c.toNat = n) (h : a = c → False) : ((a.toNat : Int) == (n : Int)) = false := by
  simp only [beq_eq_false_iff_ne, ne_eq]
  intro e
  exact h (UInt8.toNat.inj (by omega))
theorem q1_pr {c : UInt8} (h1 : ¬ c = 34) (h2 : ¬ c = 92) (h : 32 ≤ c.toNat ∧ c.toNat < 127) : Lib.byteCells (QuotePlain.q1 c) = [.int .u8 c.toNat] ∧ (QuotePlain.q1 c).length = 1 := by
  unfold QuotePlain.q1
  rw [if_neg (fun x => x.elim h1 h2), if_pos h]
  exact ⟨rfl, rfl⟩

/-- One append: what the relation holds behind it. -/
theorem zq_rel {s : ByteArray} {k B m cap : Nat} {w wr w1 w2 : World} {news : List Value} (hlt : k < s.size) (hq : Lib.byteCells (QuotePlain.q1 s[k]) = news) (hm : (QuotePlain.q1 s[k]).length = m)
    (hown : w1.ownsRow B 5 1 (.slice (some ⟨B, 0, none⟩) ((Zq s k).length + m) cap) ((Zq s k).length + m) (Lib.byteCells (Zq s k) ++ news)) (hg : w2.grownBy w1 (some B)) (hb : Below B w wr) (hw2 : Below B wr w2) (hB : B ≤ w2.heap.size) :
    w1.ownsRow B 5 1 (.slice (some ⟨B, 0, none⟩) (Zq s (k + 1)).length cap) (Zq s (k + 1)).length (Lib.byteCells (Zq s (k + 1))) ∧ Below B w w1 ∧ Value.slice (some ⟨B, 0, none⟩) ((Zq s k).length + m) cap = .slice (some ⟨B, 0, none⟩) (Zq s (k + 1)).length cap := by
  have hl : (Zq s (k + 1)).length = (Zq s k).length + m := by rw [Zq_succ s k hlt, List.length_append, hm]
  have hc : Lib.byteCells (Zq s (k + 1)) = Lib.byteCells (Zq s k) ++ news := by rw [Zq_succ s k hlt, Lib.byteCells_append, hq]
  rw [hl, hc]
  exact ⟨hown, (hb.trans hw2).grown hg hB (fun k' e => by cases e; exact Nat.le_refl _), rfl⟩

theorem and15_all : ∀ n : Fin 128, bits BinOp.and IntKind.u8 (n.val : Int) 15 = ((n.val % 16 : Nat) : Int) := by decide +kernel
theorem and15 (n : Nat) (h : n < 128) : bits BinOp.and IntKind.u8 (n : Int) 15 = ((n % 16 : Nat) : Int) := and15_all ⟨n, h⟩

def hexTab : ByteArray := { data := #[48, 49, 50, 51, 52, 53, 54, 55, 56, 57, 97, 98, 99, 100, 101, 102] }
theorem tab_all : ∀ i : Fin 16, hexTab[i.val]'i.isLt = Go.Extern.FmtText.digit false i.val := by decide +kernel
theorem tab_at (i j : Nat) (h : j < hexTab.size) (e : j = i) : hexTab[j]'h = Go.Extern.FmtText.digit false i := by
  subst e
  exact tab_all ⟨j, h⟩
theorem hex_cells {c : UInt8} (_ : c.toNat < 128) (hq : QuotePlain.q1 c = [92, 120, Go.Extern.FmtText.digit false (c.toNat / 16), Go.Extern.FmtText.digit false (c.toNat % 16)])
    (p1 : ((c.toNat : Int) / 16).toNat < hexTab.size) (p2 : ((c.toNat : Int) % 16).toNat < hexTab.size) :
    Lib.byteCells (QuotePlain.q1 c) = [.int .u8 92, .int .u8 120, .int .u8 (hexTab[((c.toNat : Int) / 16).toNat]'p1).toNat, .int .u8 (hexTab[((c.toNat : Int) % 16).toNat]'p2).toNat] := by
  rw [hq, tab_at (c.toNat / 16) _ p1 (by omega), tab_at (c.toNat % 16) _ p2 (by omega)]
  rfl

theorem q1_class (c : UInt8) (h : c.toNat < 128) : c = 34 ∨ c = 92 ∨ c = 7 ∨ c = 8 ∨ c = 9 ∨ c = 10 ∨ c = 11 ∨ c = 12 ∨ c = 13 ∨
    ((32 : Int) ≤ c.toNat ∧ (c.toNat : Int) < 127 ∧ ((c.toNat : Int) == 34) = false ∧ ((c.toNat : Int) == 92) = false ∧ Hid (Lib.byteCells (QuotePlain.q1 c) = [.int .u8 c.toNat] ∧ (QuotePlain.q1 c).length = 1)) ∨
    ((c.toNat : Int) < 32 ∧ ((c.toNat : Int) == 7) = false ∧ ((c.toNat : Int) == 8) = false ∧ ((c.toNat : Int) == 9) = false ∧ ((c.toNat : Int) == 10) = false ∧ ((c.toNat : Int) == 11) = false ∧ ((c.toNat : Int) == 12) = false ∧ ((c.toNat : Int) == 13) = false ∧ ((c.toNat : Int) == 34) = false ∧ ((c.toNat : Int) == 92) = false ∧
      Hid (QuotePlain.q1 c = [92, 120, Go.Extern.FmtText.digit false (c.toNat / 16), Go.Extern.FmtText.digit false (c.toNat % 16)])) ∨ c = 127 := by
  by_cases e34 : c = 34
  · exact .inl e34
  by_cases e92 : c = 92
  · exact .inr (.inl e92)
  by_cases e7 : c = 7
  · exact .inr (.inr (.inl e7))
  by_cases e8 : c = 8
  · exact .inr (.inr (.inr (.inl e8)))
  by_cases e9 : c = 9
  · exact .inr (.inr (.inr (.inr (.inl e9))))
  by_cases e10 : c = 10
  · exact .inr (.inr (.inr (.inr (.inr (.inl e10)))))
  by_cases e11 : c = 11
  · exact .inr (.inr (.inr (.inr (.inr (.inr (.inl e11))))))
  by_cases e12 : c = 12
  · exact .inr (.inr (.inr (.inr (.inr (.inr (.inr (.inl e12)))))))
  by_cases e13 : c = 13
  · exact .inr (.inr (.inr (.inr (.inr (.inr (.inr (.inr (.inl e13))))))))
  have t34 : ((c.toNat : Int) == 34) = false := u8_nel 34 rfl e34
  have t92 : ((c.toNat : Int) == 92) = false := u8_nel 92 rfl e92
  by_cases pr : 32 ≤ c.toNat ∧ c.toNat < 127
  · exact .inr (.inr (.inr (.inr (.inr (.inr (.inr (.inr (.inr (.inl ⟨by omega, by omega, t34, t92, Lib.hid (q1_pr e34 e92 pr)⟩)))))))))
  by_cases e127 : c.toNat = 127
  · exact .inr (.inr (.inr (.inr (.inr (.inr (.inr (.inr (.inr (.inr (.inr (UInt8.toNat.inj e127)))))))))))
  refine .inr (.inr (.inr (.inr (.inr (.inr (.inr (.inr (.inr (.inr (.inl ⟨by omega, u8_nel 7 rfl e7, u8_nel 8 rfl e8, u8_nel 9 rfl e9, u8_nel 10 rfl e10, u8_nel 11 rfl e11, u8_nel 12 rfl e12, u8_nel 13 rfl e13, t34, t92, Lib.hid ?_⟩))))))))))
  unfold QuotePlain.q1
  rw [if_neg (fun x => x.elim e34 e92), if_neg pr, if_neg e7, if_neg e8, if_neg e9, if_neg e10, if_neg e11, if_neg e12, if_neg e13]

/-- append within the capacity, as one step of a region that draws: ONE goal is left. -/
theorem step_append_fits {P : Program} {ops : Array Oper} {o : Oper} {a : Act} {w : World} {K : Act → World → Prop} {Q : Exit → Act → World → Prop} {E : Prop}
    (hg : o.guard = none) (s x : Operand) (t : TypeId) (hop : o.op = Op.call { callee := Callee.builtin Builtin.append, args := #[s, x], argTypes := #[t, t] })
    (base : Nat) (e : TypeId) (i : TypeInfo) (size : Nat) (h1 : P.underlying t = some (.slice e)) (h2 : P.info? e = some i) (h4 : i.size = size)
    (g k cap : Nat) (xs : List Value) (hs : a.eval s = .slice (some ⟨g, 0, none⟩) k cap) (hown : w.ownsRow base e size (.slice (some ⟨g, 0, none⟩) k cap) k xs) (ad : Addr) (m c : Nat) (news : List Value) (hx : a.eval x = .slice (some ad) m c) (hn : news.length = m * size)
    (hc : ∀ j u, news[j]? = some u → w.cell? (ad.add j) = some u) (h1c : ∀ u ∈ news, u.oneCell' = true) (b1 : k + m ≤ cap)
    (hK : ∀ w', w'.ownsRow base e size (.slice (some ⟨g, 0, none⟩) (k + m) cap) (k + m) (xs ++ news) → w.grownBy w' (some g) → K (a.put o.dst (.slice (some ⟨g, 0, none⟩) (k + m) cap)) w') :
    if Region.wanted o (yielded ops a.tmps) = true then Oper.wp P o a w K Q else E := by
  have hw : Region.wanted o (yielded ops a.tmps) = true := by simp [Region.wanted, hg]
  rw [if_pos hw]
  obtain ⟨w', hrun, r1, r2⟩ := run_append_fits (P := P) w base t o.type e i size h1 h2 h4 g k cap xs hown ad m c news hn hc h1c b1
  unfold Oper.wp
  simp [execOp, hop, resolve, invoke, builtin, hs, hx, hrun, Result.andThen]
  exact hK w' r1 r2

set_option maxRecDepth 100000 in
set_option maxHeartbeats 2000000 in
theorem zz18 (s : ByteArray) (w : World) (hs : s.size ≤ 1048576) (ha : ∀ k (hk : k < s.size), s[k].toNat < 128) :
    Calls Tryf.prog 18 #[.string s] w fun e w' => e = .returned (.string (bs (QuotePlain.zq s.data.toList))) ∧ Below w.heap.size w w' := by
  obtain ⟨i0, hi, hz0, hz1, hz2⟩ := info_parts Tryf.info5
  have HA := Lib.hid ha
  have HF := Lib.hid (Zq_full s)
  clear ha
  go_enter Tryf.func18, Tryf.ntmps18
  go_wp2_with (at_make; refine wpList_make_own _ rfl _ _ 35 rfl w.heap.size 5 i0 (.int .u8 0) 1 Tryf.underlying35 hi hz0 hz1 .i64 .i64 _ (4 * s.size + 2) rfl rfl ?c1 ?c2 ?c3 ?c4 ?c5)
  case c1 => push_cast; rfl
  case c2 => rw [hz2]; omega
  case c3 => unfold maxLen; omega
  case c4 => exact Nat.le_refl _
  intro w1 hown1 hg1
  go_wp2_with (at_builtin; refine wpList_append_fits _ rfl _ _ 35 rfl w.heap.size 5 i0 1 Tryf.underlying35 hi hz1 w.heap.size 0 (4 * s.size + 2) [] rfl (hown1.alloc _) ⟨w1.heap.size, 0, none⟩ 1 1 [.int .u8 34] rfl rfl ?d1 ?d2 ?d3 ?d4)
  case d1 => exact new1 _ _ _
  case d2 => intro u hu; simp at hu; subst hu; rfl
  case d3 => omega
  intro w2 hown2 hg2
  have HB2 : Hid (Below w.heap.size w w2) := (((Below.refl _ w).grown hg1 (Nat.le_refl _) (fun k e => by cases e)).alloc hg1.size _).grown hg2 (by have := hg1.size; simp; omega) (fun k e => by cases e; exact Nat.le_refl _)
  have HO2 := Lib.hid hown2
  clear hg1 hg2 hown1 hown2
  go_wp2_with fail
  go_loopw [3, 4] (fun v i wr => ∃ k : Nat, k ≤ s.size ∧ i = .int .i64 k ∧ v = .slice (some ⟨w.heap.size, 0, none⟩) (Zq s k).length (4 * s.size + 2) ∧ wr.ownsRow w.heap.size 5 1 (.slice (some ⟨w.heap.size, 0, none⟩) (Zq s k).length (4 * s.size + 2)) (Zq s k).length (Lib.byteCells (Zq s k)) ∧ Below w.heap.size w wr) (fun _ i _ => s.size - (intOf i).toNat)
  case atStart => exact ⟨0, Nat.zero_le _, rfl, rfl, HO2.out, HB2.out⟩
  case round =>
    obtain ⟨k, hk, rfl, rfl, hown, hb⟩ := hrel
    have hzl := Zq_len s k
    have HBB := Lib.hid hb
    have hbs : w.heap.size ≤ wr.heap.size := hb.size
    clear hb HO2 HB2
    by_cases hlt : k < s.size
    · have hc128 := HA.out k hlt
      rcases q1_class (s[k]'hlt) hc128 with e | e | e | e | e | e | e | e | e | ⟨p1, p2, t34, t92, HQ⟩ | ⟨p1, t7, t8, t9, t10, t11, t12, t13, t34, t92, HQ⟩ | e
      · have ec : (s[k]'hlt).toNat = 34 := by rw [e]; rfl
        have HQ : Hid (Lib.byteCells (QuotePlain.q1 (s[k]'hlt)) = [.int .u8 92, .int .u8 34] ∧ (QuotePlain.q1 (s[k]'hlt)).length = 2) := by rw [e]; exact ⟨rfl, rfl⟩
        clear e
        have HQ : Hid (Lib.byteCells (QuotePlain.q1 (s[k]'hlt)) = [.int .u8 92, .int .u8 34] ∧ (QuotePlain.q1 (s[k]'hlt)).length = 2) := HQ
        go_wp2_with (at_builtin; refine wpList_append_fits _ rfl _ _ 35 rfl w.heap.size 5 i0 1 Tryf.underlying35 hi hz1 w.heap.size (Zq s k).length (4 * s.size + 2) (Lib.byteCells (Zq s k)) rfl (hown.alloc _) ⟨wr.heap.size, 0, none⟩ 2 2 [.int .u8 92, .int .u8 34] rfl rfl (new2 _ _ _ _) (oc2 _ _) (by omega) ?_; intro w3 hown3 hg3)
        have R := zq_rel (w := w) (wr := wr) hlt HQ.out.1 HQ.out.2 hown3 hg3 HBB.out ((Below.refl _ wr).alloc hbs _) (by simp; omega)
        have HR := Lib.hid R
        clear R hown3 hg3 hown
        go_wp2
        go_roundw
        case rel => exact ⟨k + 1, by omega, by go_num, HR.out.2.2, HR.out.1, HR.out.2.1⟩
        case measure => simp [intOf]; omega
      · have ec : (s[k]'hlt).toNat = 92 := by rw [e]; rfl
        have HQ : Hid (Lib.byteCells (QuotePlain.q1 (s[k]'hlt)) = [.int .u8 92, .int .u8 92] ∧ (QuotePlain.q1 (s[k]'hlt)).length = 2) := by rw [e]; exact ⟨rfl, rfl⟩
        clear e
        have HQ : Hid (Lib.byteCells (QuotePlain.q1 (s[k]'hlt)) = [.int .u8 92, .int .u8 92] ∧ (QuotePlain.q1 (s[k]'hlt)).length = 2) := HQ
        go_wp2_with (at_builtin; refine wpList_append_fits _ rfl _ _ 35 rfl w.heap.size 5 i0 1 Tryf.underlying35 hi hz1 w.heap.size (Zq s k).length (4 * s.size + 2) (Lib.byteCells (Zq s k)) rfl (hown.alloc _) ⟨wr.heap.size, 0, none⟩ 2 2 [.int .u8 92, .int .u8 92] rfl rfl (new2 _ _ _ _) (oc2 _ _) (by omega) ?_; intro w3 hown3 hg3)
        have R := zq_rel (w := w) (wr := wr) hlt HQ.out.1 HQ.out.2 hown3 hg3 HBB.out ((Below.refl _ wr).alloc hbs _) (by simp; omega)
        have HR := Lib.hid R
        clear R hown3 hg3 hown
        go_wp2
        go_roundw
        case rel => exact ⟨k + 1, by omega, by go_num, HR.out.2.2, HR.out.1, HR.out.2.1⟩
        case measure => simp [intOf]; omega
      · have ec : (s[k]'hlt).toNat = 7 := by rw [e]; rfl
        have HQ : Hid (Lib.byteCells (QuotePlain.q1 (s[k]'hlt)) = [.int .u8 92, .int .u8 97] ∧ (QuotePlain.q1 (s[k]'hlt)).length = 2) := by rw [e]; exact ⟨rfl, rfl⟩
        clear e
        have HQ : Hid (Lib.byteCells (QuotePlain.q1 (s[k]'hlt)) = [.int .u8 92, .int .u8 97] ∧ (QuotePlain.q1 (s[k]'hlt)).length = 2) := HQ
        go_wp2_with (at_builtin; refine wpList_append_fits _ rfl _ _ 35 rfl w.heap.size 5 i0 1 Tryf.underlying35 hi hz1 w.heap.size (Zq s k).length (4 * s.size + 2) (Lib.byteCells (Zq s k)) rfl (hown.alloc _) ⟨wr.heap.size, 0, none⟩ 2 2 [.int .u8 92, .int .u8 97] rfl rfl (new2 _ _ _ _) (oc2 _ _) (by omega) ?_; intro w3 hown3 hg3)
        have R := zq_rel (w := w) (wr := wr) hlt HQ.out.1 HQ.out.2 hown3 hg3 HBB.out ((Below.refl _ wr).alloc hbs _) (by simp; omega)
        have HR := Lib.hid R
        clear R hown3 hg3 hown
        go_wp2
        go_roundw
        case rel => exact ⟨k + 1, by omega, by go_num, HR.out.2.2, HR.out.1, HR.out.2.1⟩
        case measure => simp [intOf]; omega
      · have ec : (s[k]'hlt).toNat = 8 := by rw [e]; rfl
        have HQ : Hid (Lib.byteCells (QuotePlain.q1 (s[k]'hlt)) = [.int .u8 92, .int .u8 98] ∧ (QuotePlain.q1 (s[k]'hlt)).length = 2) := by rw [e]; exact ⟨rfl, rfl⟩
        clear e
        have HQ : Hid (Lib.byteCells (QuotePlain.q1 (s[k]'hlt)) = [.int .u8 92, .int .u8 98] ∧ (QuotePlain.q1 (s[k]'hlt)).length = 2) := HQ
        go_wp2_with (at_builtin; refine wpList_append_fits _ rfl _ _ 35 rfl w.heap.size 5 i0 1 Tryf.underlying35 hi hz1 w.heap.size (Zq s k).length (4 * s.size + 2) (Lib.byteCells (Zq s k)) rfl (hown.alloc _) ⟨wr.heap.size, 0, none⟩ 2 2 [.int .u8 92, .int .u8 98] rfl rfl (new2 _ _ _ _) (oc2 _ _) (by omega) ?_; intro w3 hown3 hg3)
        have R := zq_rel (w := w) (wr := wr) hlt HQ.out.1 HQ.out.2 hown3 hg3 HBB.out ((Below.refl _ wr).alloc hbs _) (by simp; omega)
        have HR := Lib.hid R
        clear R hown3 hg3 hown
        go_wp2
        go_roundw
        case rel => exact ⟨k + 1, by omega, by go_num, HR.out.2.2, HR.out.1, HR.out.2.1⟩
        case measure => simp [intOf]; omega
      · have ec : (s[k]'hlt).toNat = 9 := by rw [e]; rfl
        have HQ : Hid (Lib.byteCells (QuotePlain.q1 (s[k]'hlt)) = [.int .u8 92, .int .u8 116] ∧ (QuotePlain.q1 (s[k]'hlt)).length = 2) := by rw [e]; exact ⟨rfl, rfl⟩
        clear e
        have HQ : Hid (Lib.byteCells (QuotePlain.q1 (s[k]'hlt)) = [.int .u8 92, .int .u8 116] ∧ (QuotePlain.q1 (s[k]'hlt)).length = 2) := HQ
        go_wp2_with (at_builtin; refine wpList_append_fits _ rfl _ _ 35 rfl w.heap.size 5 i0 1 Tryf.underlying35 hi hz1 w.heap.size (Zq s k).length (4 * s.size + 2) (Lib.byteCells (Zq s k)) rfl (hown.alloc _) ⟨wr.heap.size, 0, none⟩ 2 2 [.int .u8 92, .int .u8 116] rfl rfl (new2 _ _ _ _) (oc2 _ _) (by omega) ?_; intro w3 hown3 hg3)
        have R := zq_rel (w := w) (wr := wr) hlt HQ.out.1 HQ.out.2 hown3 hg3 HBB.out ((Below.refl _ wr).alloc hbs _) (by simp; omega)
        have HR := Lib.hid R
        clear R hown3 hg3 hown
        go_wp2
        go_roundw
        case rel => exact ⟨k + 1, by omega, by go_num, HR.out.2.2, HR.out.1, HR.out.2.1⟩
        case measure => simp [intOf]; omega
      · have ec : (s[k]'hlt).toNat = 10 := by rw [e]; rfl
        have HQ : Hid (Lib.byteCells (QuotePlain.q1 (s[k]'hlt)) = [.int .u8 92, .int .u8 110] ∧ (QuotePlain.q1 (s[k]'hlt)).length = 2) := by rw [e]; exact ⟨rfl, rfl⟩
        clear e
        have HQ : Hid (Lib.byteCells (QuotePlain.q1 (s[k]'hlt)) = [.int .u8 92, .int .u8 110] ∧ (QuotePlain.q1 (s[k]'hlt)).length = 2) := HQ
        go_wp2_with (at_builtin; refine wpList_append_fits _ rfl _ _ 35 rfl w.heap.size 5 i0 1 Tryf.underlying35 hi hz1 w.heap.size (Zq s k).length (4 * s.size + 2) (Lib.byteCells (Zq s k)) rfl (hown.alloc _) ⟨wr.heap.size, 0, none⟩ 2 2 [.int .u8 92, .int .u8 110] rfl rfl (new2 _ _ _ _) (oc2 _ _) (by omega) ?_; intro w3 hown3 hg3)
        have R := zq_rel (w := w) (wr := wr) hlt HQ.out.1 HQ.out.2 hown3 hg3 HBB.out ((Below.refl _ wr).alloc hbs _) (by simp; omega)
        have HR := Lib.hid R
        clear R hown3 hg3 hown
        go_wp2
        go_roundw
        case rel => exact ⟨k + 1, by omega, by go_num, HR.out.2.2, HR.out.1, HR.out.2.1⟩
        case measure => simp [intOf]; omega
      · have ec : (s[k]'hlt).toNat = 11 := by rw [e]; rfl
        have HQ : Hid (Lib.byteCells (QuotePlain.q1 (s[k]'hlt)) = [.int .u8 92, .int .u8 118] ∧ (QuotePlain.q1 (s[k]'hlt)).length = 2) := by rw [e]; exact ⟨rfl, rfl⟩
        clear e
        have HQ : Hid (Lib.byteCells (QuotePlain.q1 (s[k]'hlt)) = [.int .u8 92, .int .u8 118] ∧ (QuotePlain.q1 (s[k]'hlt)).length = 2) := HQ
        go_wp2_with (at_builtin; refine wpList_append_fits _ rfl _ _ 35 rfl w.heap.size 5 i0 1 Tryf.underlying35 hi hz1 w.heap.size (Zq s k).length (4 * s.size + 2) (Lib.byteCells (Zq s k)) rfl (hown.alloc _) ⟨wr.heap.size, 0, none⟩ 2 2 [.int .u8 92, .int .u8 118] rfl rfl (new2 _ _ _ _) (oc2 _ _) (by omega) ?_; intro w3 hown3 hg3)
        have R := zq_rel (w := w) (wr := wr) hlt HQ.out.1 HQ.out.2 hown3 hg3 HBB.out ((Below.refl _ wr).alloc hbs _) (by simp; omega)
        have HR := Lib.hid R
        clear R hown3 hg3 hown
        go_wp2
        go_roundw
        case rel => exact ⟨k + 1, by omega, by go_num, HR.out.2.2, HR.out.1, HR.out.2.1⟩
        case measure => simp [intOf]; omega
      · have ec : (s[k]'hlt).toNat = 12 := by rw [e]; rfl
        have HQ : Hid (Lib.byteCells (QuotePlain.q1 (s[k]'hlt)) = [.int .u8 92, .int .u8 102] ∧ (QuotePlain.q1 (s[k]'hlt)).length = 2) := by rw [e]; exact ⟨rfl, rfl⟩
        clear e
        have HQ : Hid (Lib.byteCells (QuotePlain.q1 (s[k]'hlt)) = [.int .u8 92, .int .u8 102] ∧ (QuotePlain.q1 (s[k]'hlt)).length = 2) := HQ
        go_wp2_with (at_builtin; refine wpList_append_fits _ rfl _ _ 35 rfl w.heap.size 5 i0 1 Tryf.underlying35 hi hz1 w.heap.size (Zq s k).length (4 * s.size + 2) (Lib.byteCells (Zq s k)) rfl (hown.alloc _) ⟨wr.heap.size, 0, none⟩ 2 2 [.int .u8 92, .int .u8 102] rfl rfl (new2 _ _ _ _) (oc2 _ _) (by omega) ?_; intro w3 hown3 hg3)
        have R := zq_rel (w := w) (wr := wr) hlt HQ.out.1 HQ.out.2 hown3 hg3 HBB.out ((Below.refl _ wr).alloc hbs _) (by simp; omega)
        have HR := Lib.hid R
        clear R hown3 hg3 hown
        go_wp2
        go_roundw
        case rel => exact ⟨k + 1, by omega, by go_num, HR.out.2.2, HR.out.1, HR.out.2.1⟩
        case measure => simp [intOf]; omega
      · have ec : (s[k]'hlt).toNat = 13 := by rw [e]; rfl
        have HQ : Hid (Lib.byteCells (QuotePlain.q1 (s[k]'hlt)) = [.int .u8 92, .int .u8 114] ∧ (QuotePlain.q1 (s[k]'hlt)).length = 2) := by rw [e]; exact ⟨rfl, rfl⟩
        clear e
        have HQ : Hid (Lib.byteCells (QuotePlain.q1 (s[k]'hlt)) = [.int .u8 92, .int .u8 114] ∧ (QuotePlain.q1 (s[k]'hlt)).length = 2) := HQ
        go_wp2_with (at_builtin; refine wpList_append_fits _ rfl _ _ 35 rfl w.heap.size 5 i0 1 Tryf.underlying35 hi hz1 w.heap.size (Zq s k).length (4 * s.size + 2) (Lib.byteCells (Zq s k)) rfl (hown.alloc _) ⟨wr.heap.size, 0, none⟩ 2 2 [.int .u8 92, .int .u8 114] rfl rfl (new2 _ _ _ _) (oc2 _ _) (by omega) ?_; intro w3 hown3 hg3)
        have R := zq_rel (w := w) (wr := wr) hlt HQ.out.1 HQ.out.2 hown3 hg3 HBB.out ((Below.refl _ wr).alloc hbs _) (by simp; omega)
        have HR := Lib.hid R
        clear R hown3 hg3 hown
        go_wp2
        go_roundw
        case rel => exact ⟨k + 1, by omega, by go_num, HR.out.2.2, HR.out.1, HR.out.2.1⟩
        case measure => simp [intOf]; omega
      · skip
        have HQ : Hid (Lib.byteCells (QuotePlain.q1 (s[k]'hlt)) = [.int .u8 (s[k]'hlt).toNat] ∧ (QuotePlain.q1 (s[k]'hlt)).length = 1) := HQ
        go_wp2_with (at_builtin; refine wpList_append_fits _ rfl _ _ 35 rfl w.heap.size 5 i0 1 Tryf.underlying35 hi hz1 w.heap.size (Zq s k).length (4 * s.size + 2) (Lib.byteCells (Zq s k)) rfl (hown.alloc _) ⟨wr.heap.size, 0, none⟩ 1 1 [.int .u8 (s[k]'hlt).toNat] rfl rfl (new1 _ _ _) (oc1 _) (by omega) ?_; intro w3 hown3 hg3)
        have R := zq_rel (w := w) (wr := wr) hlt HQ.out.1 HQ.out.2 hown3 hg3 HBB.out ((Below.refl _ wr).alloc hbs _) (by simp; omega)
        have HR := Lib.hid R
        clear R hown3 hg3 hown
        go_wp2
        go_roundw
        case rel => exact ⟨k + 1, by omega, by go_num, HR.out.2.2, HR.out.1, HR.out.2.1⟩
        case measure => simp [intOf]; omega
      · have hb : bits BinOp.and IntKind.u8 (s[k]'hlt).toNat 15 = (((s[k]'hlt).toNat % 16 : Nat) : Int) := and15 _ hc128
        have b1 : (0 : Int) ≤ ((s[k]'hlt).toNat : Int) / 16 := by omega
        have b2 : ((s[k]'hlt).toNat : Int) / 16 < 16 := by omega
        have b3 : ((s[k]'hlt).toNat : Int) % 16 < 16 := by omega
        have b4 : (0 : Int) ≤ ((s[k]'hlt).toNat : Int) % 16 := by omega
        go_wp2
        all_goals skip
        go_region_law (refine step_append_fits rfl _ _ 35 rfl w.heap.size 5 i0 1 Tryf.underlying35 hi hz1 w.heap.size (Zq s k).length (4 * s.size + 2) (Lib.byteCells (Zq s k)) rfl (hown.drew.alloc _) ⟨wr.heap.size, 0, none⟩ 4 4 [_, _, _, _] rfl rfl (new4 _ _ _ _ _ _) (oc4 _ _ _ _) (by omega) ?_; intro w3 hown3 hg3)
        all_goals
          have R := zq_rel (w := w) (wr := wr) hlt (hex_cells hc128 HQ.out _ _) (by rw [HQ.out]; rfl) hown3 hg3 HBB.out ((Below.refl _ wr).alloc hbs _).drew (by simp; omega)
          have HR := Lib.hid R
          clear R hown3 hg3 hown
          go_wp2
          go_roundw
          case rel => exact ⟨k + 1, by omega, by go_num, HR.out.2.2, HR.out.1, HR.out.2.1⟩
          case measure => simp [intOf]; omega
      · have ec : (s[k]'hlt).toNat = 127 := by rw [e]; rfl
        have hb : bits BinOp.and IntKind.u8 127 15 = 15 := by decide +kernel
        have E := Lib.hid e
        clear e
        go_wp2
        all_goals skip
        go_region_law (refine step_append_fits rfl _ _ 35 rfl w.heap.size 5 i0 1 Tryf.underlying35 hi hz1 w.heap.size (Zq s k).length (4 * s.size + 2) (Lib.byteCells (Zq s k)) rfl (hown.drew.alloc _) ⟨wr.heap.size, 0, none⟩ 4 4 [_, _, _, _] rfl rfl (new4 _ _ _ _ _ _) (oc4 _ _ _ _) (by omega) ?_; intro w3 hown3 hg3)
        all_goals
          have R := zq_rel (w := w) (wr := wr) hlt (by rw [E.out]; rfl) (by rw [E.out]; rfl) hown3 hg3 HBB.out ((Below.refl _ wr).alloc hbs _).drew (by simp; omega)
          have HR := Lib.hid R
          clear R hown3 hg3 hown
          go_wp2
          go_roundw
          case rel => exact ⟨k + 1, by omega, by go_num, HR.out.2.2, HR.out.1, HR.out.2.1⟩
          case measure => simp [intOf]; omega
    · have he : k = s.size := by omega
      subst he
      go_wp2_with (at_builtin; refine wpList_append_fits _ rfl _ _ 35 rfl w.heap.size 5 i0 1 Tryf.underlying35 hi hz1 w.heap.size (Zq s s.size).length (4 * s.size + 2) (Lib.byteCells (Zq s s.size)) rfl (hown.alloc _) ⟨wr.heap.size, 0, none⟩ 1 1 [.int .u8 34] rfl rfl (new1 _ _ _) (oc1 _) (by omega) ?_; intro w3 hown3 hg3)
      have HB3 : Hid (Below w.heap.size w w3) := (HBB.out.trans ((Below.refl _ wr).alloc hbs _)).grown hg3 (by simp; omega) (fun k' e => by cases e; exact Nat.le_refl _)
      have eL : Lib.byteCells (Zq s s.size) ++ [Value.int .u8 34] = Lib.byteCells (Zq s s.size ++ [34]) := by simp [Lib.byteCells]
      have eN : (Zq s s.size).length + 1 = (Zq s s.size ++ [34]).length := by simp
      rw [eL, eN] at hown3
      obtain ⟨l, hl⟩ : ∃ l, l = Zq s s.size ++ [34] := ⟨_, rfl⟩
      have hgo : Value.slice (some ⟨w.heap.size, 0, none⟩) ((Zq s s.size).length + 1) (4 * s.size + 2) = Value.slice (some ⟨w.heap.size, 0, none⟩) l.length (4 * s.size + 2) := by rw [hl, eN]
      rw [hgo]
      rw [← hl] at hown3
      have HL := Lib.hid hl
      clear hl eL eN hgo hg3 hown
      have hcv := run_convert_bytes_back (P := Tryf.prog) w3 35 9 5 ⟨w.heap.size, 0, none⟩ (4 * s.size + 2) l Tryf.underlying35 Tryf.underlying5 Tryf.underlying9 (fun j hj => hown3.cells (g := w.heap.size) rfl j _ (by simp [Lib.byteCells, hj]))
      go_wp2
      rw [hcv]
      go_wp2
      go_ret
      have hl := HL.out
      subst hl
      exact ⟨by rw [HF.out]; rfl, HB3.out⟩

end Go.Proofs.YtjpkoddghagdgaaFmtR

