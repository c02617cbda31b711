/-
  FnSliceStringRoundTrip: the walks. Conditions: none but those in each statement.
-/
import Derived.Test.YtjpkoddghagdgaaFmtRRtB
import Derived.Laws.Strings
namespace Go.Proofs.YtjpkoddghagdgaaFmtR
open Go.RowKit Go.Extern.Stop Go.Stop Go.Extern

/-- What the reader of a printed slice wants of the text t: base, the inner part, the two bounds' texts f and u. -/
structure Rt (t base inner f u : ByteArray) : Prop where
  size : t.size = base.size + f.size + u.size + 3
  isize : inner.size = f.size + u.size + 1
  last : ∀ h : t.size - 1 < t.size, t[t.size - 1] = 93
  at91 : ∀ h : base.size < t.size, t[base.size] = 91
  no91 : ∀ k (h : k < t.size), k < base.size → t[k] ≠ 91
  at58 : ∀ h : f.size < inner.size, inner[f.size] = 58
  no58 : ∀ k (h : k < inner.size), k < f.size → inner[k] ≠ 58
  inn : t.extract (base.size + 1) (t.size - 1) = inner
  eb : t.extract 0 base.size = base
  ef : inner.extract 0 f.size = f
  eu : inner.extract (f.size + 1) inner.size = u


theorem ba_ext {x y : ByteArray} (h : x.data.toList = y.data.toList) : x = y := by
  have := congrArg bs h
  rwa [list_bs, list_bs] at this

theorem ext_list (x : ByteArray) (i j : Nat) : (x.extract i j).data.toList = (x.data.toList.take j).drop i := by
  rw [ByteArray.data_extract, Array.toList_extract]
  simp [List.extract_eq_take_drop, List.drop_take]

theorem get_list (x : ByteArray) (l : List UInt8) (h : x.data.toList = l) (k : Nat) (hk : k < x.size) : x[k] = l[k]'(by rw [← h]; exact hk) := by
  subst h; rfl

theorem get_ne {s : ByteArray} {c : UInt8} (h : ∀ x ∈ s.data.toList, x ≠ c) : ∀ k (hk : k < s.size), s[k] ≠ c := fun k hk => h _ (by
  have e : s[k] = s.data.toList[k]'hk := rfl
  rw [e]; exact List.getElem_mem _)

theorem first_at (s : ByteArray) (c : UInt8) : ∀ n, n ≤ s.size → (∀ k (hk : k < s.size), k < n → s[k] ≠ c) ∨ ∃ j, ∃ hj : j < s.size, s[j] = c ∧ ∀ k (hk : k < s.size), k < j → s[k] ≠ c
  | 0, _ => Or.inl fun k _ h => absurd h (Nat.not_lt_zero k)
  | n + 1, hn => by
    rcases first_at s c n (by omega) with h | h
    · by_cases e : s[n]'(by omega) = c
      · exact Or.inr ⟨n, by omega, e, h⟩
      · refine Or.inl fun k hk hlt => ?_
        by_cases hkn : k = n
        · subst hkn; exact e
        · exact h k hk (by omega)
    · exact Or.inr h

theorem rt_of (a f u : ByteArray) (ha : ∀ k (hk : k < a.size), a[k] ≠ 91) (hf : ∀ k (hk : k < f.size), f[k] ≠ 58) :
    ∃ inner, Rt (bs (a.data.toList ++ 91 :: (f.data.toList ++ 58 :: (u.data.toList ++ [93])))) a inner f u := by
  have la := size_list a
  have lf := size_list f
  have lu := size_list u
  have hts : (bs (a.data.toList ++ 91 :: (f.data.toList ++ 58 :: (u.data.toList ++ [93])))).size = a.size + f.size + u.size + 3 := by
    rw [bs_size]; simp only [List.length_append, List.length_cons, List.length_nil, la, lf, lu]; omega
  have hi : (bs (a.data.toList ++ 91 :: (f.data.toList ++ 58 :: (u.data.toList ++ [93])))).extract (a.size + 1) ((bs (a.data.toList ++ 91 :: (f.data.toList ++ 58 :: (u.data.toList ++ [93])))).size - 1) = bs (f.data.toList ++ 58 :: u.data.toList) := by
    apply ba_ext
    rw [ext_list, hts, bs_list, bs_list]
    have e1 : a.data.toList ++ 91 :: (f.data.toList ++ 58 :: (u.data.toList ++ [93])) = (a.data.toList ++ 91 :: (f.data.toList ++ 58 :: u.data.toList)) ++ [93] := by simp
    have e2 : a.size + f.size + u.size + 3 - 1 = (a.data.toList ++ 91 :: (f.data.toList ++ 58 :: u.data.toList)).length := by
      simp only [List.length_append, List.length_cons, la, lf, lu]; omega
    rw [e1, e2, List.take_left]
    have e3 : a.data.toList ++ 91 :: (f.data.toList ++ 58 :: u.data.toList) = (a.data.toList ++ [91]) ++ (f.data.toList ++ 58 :: u.data.toList) := by simp
    have e4 : a.size + 1 = (a.data.toList ++ [91]).length := by simp [la]
    rw [e3, e4, List.drop_left]
  have his : (bs (f.data.toList ++ 58 :: u.data.toList)).size = f.size + u.size + 1 := by
    rw [bs_size]; simp only [List.length_append, List.length_cons, lf, lu]; omega
  refine ⟨bs (f.data.toList ++ 58 :: u.data.toList), hts, his, fun h => ?_, fun h => ?_, fun k h hk => ?_, fun h => ?_, fun k h hk => ?_, hi, ?_, ?_, ?_⟩
  · rw [get_list _ _ (bs_list _)]
    simp only [hts]
    have e1 : a.data.toList ++ 91 :: (f.data.toList ++ 58 :: (u.data.toList ++ [93])) = (a.data.toList ++ 91 :: (f.data.toList ++ 58 :: u.data.toList)) ++ [93] := by simp
    simp only [e1]
    rw [List.getElem_append_right (by simp only [List.length_append, List.length_cons, la, lf, lu]; omega)]
    simp
  · rw [get_list _ _ (bs_list _)]
    rw [List.getElem_append_right (by omega)]
    simp [la]
  · rw [get_list _ _ (bs_list _)]
    rw [List.getElem_append_left (by omega)]
    exact ha k (by omega)
  · rw [get_list _ _ (bs_list _)]
    rw [List.getElem_append_right (by omega)]
    simp [lf]
  · rw [get_list _ _ (bs_list _)]
    rw [List.getElem_append_left (by omega)]
    exact hf k (by omega)
  · apply ba_ext
    rw [ext_list, bs_list, ← la, List.take_left]; rfl
  · apply ba_ext
    rw [ext_list, bs_list, ← lf, List.take_left]; rfl
  · apply ba_ext
    rw [ext_list, his, bs_list]
    have e2 : f.size + u.size + 1 = (f.data.toList ++ 58 :: u.data.toList).length := by simp only [List.length_append, List.length_cons, lf, lu]; omega
    rw [e2, List.take_length]
    have e3 : f.data.toList ++ 58 :: u.data.toList = (f.data.toList ++ [58]) ++ u.data.toList := by simp
    have e4 : f.size + 1 = (f.data.toList ++ [58]).length := by simp [lf]
    rw [e3, e4, List.drop_left]

set_option maxHeartbeats 1000000 in
theorem p11_nn (F : Interp) (a b c f u t inner : ByteArray) (w : World) (hF : F.told.answers w.tape) (h : a.size + b.size + c.size ≤ 1048576)
    (ht : bs (a.data.toList ++ [91, 58, 93]) = t) (R : Rt t a inner f u)
    (ha : ∀ k (hk : k < a.size), a[k] ≠ 91) (hf0 : f.toList.isEmpty = true) (hfz : f.size ≤ 0) (hu0 : u.toList.isEmpty = true) (huz : u.size ≤ 0) :
    Calls Tryf.prog 11 #[.string a, .string b, .string c, .bool false, .bool false] w fun e w' => e = .returned (.bool true) ∧ Below w.heap.size w w' := by
  have r1 : t.size ≤ a.size + f.size + u.size + 3 := Nat.le_of_eq R.size
  have r1' : a.size + f.size + u.size + 3 ≤ t.size := Nat.le_of_eq R.size.symm
  have r2 : inner.size ≤ f.size + u.size + 1 := Nat.le_of_eq R.isize
  have r2' : f.size + u.size + 1 ≤ inner.size := Nat.le_of_eq R.isize.symm
  have hl1 : t.size - 1 < t.size := by omega
  have e1 : (((t[t.size - 1]'hl1).toNat : Int) != 93) = false := by rw [R.last hl1]; rfl
  have hz : ((t.size : Int) == 0) = false := by simp only [beq_eq_false_iff_ne, ne_eq]; omega
  have hne : ¬ t = ByteArray.empty := by intro e; rw [e] at r1'; simp at r1'
  have q1 : ¬ (a.size : Int) < 0 := by omega
  have q2 : ¬ (t.size : Int) - 1 ≤ a.size := by omega
  have HT := Lib.hid ht
  have HA := Lib.hid ha
  have HR := Lib.hid R
  have i1 := R.inn
  have i2 := R.eb
  have i3 := R.ef
  have i4 := R.eu
  clear ht ha R
  go_enter Tryf.func11, Tryf.ntmps11
  go_wp2_with fail
  refine (zz33_yes _ _ _ _ _ _ h).mono ?_
  rintro e w' ⟨rfl, rfl⟩
  go_wp2_with fail
  refine (zz20_small a.size b.size c.size 0 _ (by omega)).mono ?_
  rintro e w' ⟨rfl, rfl⟩
  go_wp2_with fail
  refine (zz34_no a 91 _ (by omega) HA.out).mono ?_
  rintro e w' ⟨rfl, rfl⟩
  go_wp2_with fail
  refine (zzident a _).mono ?_
  rintro e w1 ⟨rfl, rfl⟩
  go_wp2_with fail
  refine (slice_nn F a (w.heap.size + 1) w.heap.size _ (by exact hF) (by omega) (by simp [go_sem]) (by simp [go_sem]) (by simp [go_sem]) (by simp [go_sem])).mono ?_
  rintro e w2 ⟨rfl, hb2⟩
  rw [HT.out]
  have HB2 := Lib.hid hb2
  clear hb2
  go_wp2_with fail
  refine (zz35_at t 91 _ (by omega) a.size (by omega) (HR.out.at91 (by omega)) HR.out.no91).mono ?_
  rintro e w' ⟨rfl, rfl⟩
  go_wp2_with fail
  refine (zz35_at inner 58 _ (by omega) f.size (by omega) (HR.out.at58 (by omega)) HR.out.no58).mono ?_
  rintro e w' ⟨rfl, rfl⟩
  go_wp2
  go_ret
  exact ⟨rfl, (((Below.refl _ w).alloc (Nat.le_refl _) _).alloc (by simp) _).trans (HB2.out.mono (by simp; omega))⟩

set_option maxHeartbeats 1000000 in
theorem p11_ny (F : Interp) (a b c f t inner : ByteArray) (w : World) (hF : F.told.answers w.tape) (h : a.size + b.size + c.size ≤ 1048576)
    (ht : bs (a.data.toList ++ [91, 58] ++ c.data.toList ++ [93]) = t) (R : Rt t a inner f c)
    (ha : ∀ k (hk : k < a.size), a[k] ≠ 91) (hf0 : f.toList.isEmpty = true) (hfz : f.size ≤ 0) (hc0 : c.toList.isEmpty = false) :
    Calls Tryf.prog 11 #[.string a, .string b, .string c, .bool false, .bool true] w fun e w' => e = .returned (.bool true) ∧ Below w.heap.size w w' := by
  have r1 : t.size ≤ a.size + f.size + c.size + 3 := Nat.le_of_eq R.size
  have r1' : a.size + f.size + c.size + 3 ≤ t.size := Nat.le_of_eq R.size.symm
  have r2 : inner.size ≤ f.size + c.size + 1 := Nat.le_of_eq R.isize
  have r2' : f.size + c.size + 1 ≤ inner.size := Nat.le_of_eq R.isize.symm
  have hl1 : t.size - 1 < t.size := by omega
  have e1 : (((t[t.size - 1]'hl1).toNat : Int) != 93) = false := by rw [R.last hl1]; rfl
  have hz : ((t.size : Int) == 0) = false := by simp only [beq_eq_false_iff_ne, ne_eq]; omega
  have hne : ¬ t = ByteArray.empty := by intro e; rw [e] at r1'; simp at r1'
  have q1 : ¬ (a.size : Int) < 0 := by omega
  have q2 : ¬ (t.size : Int) - 1 ≤ a.size := by omega
  have HT := Lib.hid ht
  have HA := Lib.hid ha
  have HR := Lib.hid R
  have i1 := R.inn
  have i2 := R.eb
  have i3 := R.ef
  have i4 := R.eu
  clear ht ha R
  go_enter Tryf.func11, Tryf.ntmps11
  go_wp2_with fail
  refine (zz33_yes _ _ _ _ _ _ h).mono ?_
  rintro e w' ⟨rfl, rfl⟩
  go_wp2_with fail
  refine (zz20_small a.size b.size c.size 0 _ (by omega)).mono ?_
  rintro e w' ⟨rfl, rfl⟩
  go_wp2_with fail
  refine (zz34_no a 91 _ (by omega) HA.out).mono ?_
  rintro e w' ⟨rfl, rfl⟩
  go_wp2_with fail
  refine (zzident a _).mono ?_
  rintro e w1 ⟨rfl, rfl⟩
  go_wp2_with fail
  refine (zzident c _).mono ?_
  rintro e w1 ⟨rfl, rfl⟩
  go_wp2_with fail
  refine (slice_ny F a c (w.heap.size + 1) w.heap.size (w.heap.size + 1 + 1) _ (by exact hF) (by omega) (by omega) (by simp [go_sem]) (by simp [go_sem]) (by simp [go_sem]) (by simp [go_sem]) (by simp [go_sem])).mono ?_
  rintro e w2 ⟨rfl, hb2⟩
  rw [HT.out]
  have HB2 := Lib.hid hb2
  clear hb2
  go_wp2_with fail
  refine (zz35_at t 91 _ (by omega) a.size (by omega) (HR.out.at91 (by omega)) HR.out.no91).mono ?_
  rintro e w' ⟨rfl, rfl⟩
  go_wp2_with fail
  refine (zz35_at inner 58 _ (by omega) f.size (by omega) (HR.out.at58 (by omega)) HR.out.no58).mono ?_
  rintro e w' ⟨rfl, rfl⟩
  go_wp2
  go_ret
  exact ⟨rfl, ((((Below.refl _ w).alloc (Nat.le_refl _) _).alloc (by simp) _).alloc (by simp; omega) _).trans (HB2.out.mono (by simp; omega))⟩

set_option maxHeartbeats 1000000 in
theorem p11_yn (F : Interp) (a b c u t inner : ByteArray) (w : World) (hF : F.told.answers w.tape) (h : a.size + b.size + c.size ≤ 1048576)
    (ht : bs (a.data.toList ++ [91] ++ b.data.toList ++ [58, 93]) = t) (R : Rt t a inner b u)
    (ha : ∀ k (hk : k < a.size), a[k] ≠ 91) (hb : ∀ k (hk : k < b.size), b[k] ≠ 58) (hb0 : b.toList.isEmpty = false) (hu0 : u.toList.isEmpty = true) (huz : u.size ≤ 0) :
    Calls Tryf.prog 11 #[.string a, .string b, .string c, .bool true, .bool false] w fun e w' => e = .returned (.bool true) ∧ Below w.heap.size w w' := by
  have r1 : t.size ≤ a.size + b.size + u.size + 3 := Nat.le_of_eq R.size
  have r1' : a.size + b.size + u.size + 3 ≤ t.size := Nat.le_of_eq R.size.symm
  have r2 : inner.size ≤ b.size + u.size + 1 := Nat.le_of_eq R.isize
  have r2' : b.size + u.size + 1 ≤ inner.size := Nat.le_of_eq R.isize.symm
  have hl1 : t.size - 1 < t.size := by omega
  have e1 : (((t[t.size - 1]'hl1).toNat : Int) != 93) = false := by rw [R.last hl1]; rfl
  have hz : ((t.size : Int) == 0) = false := by simp only [beq_eq_false_iff_ne, ne_eq]; omega
  have hne : ¬ t = ByteArray.empty := by intro e; rw [e] at r1'; simp at r1'
  have q1 : ¬ (a.size : Int) < 0 := by omega
  have q2 : ¬ (t.size : Int) - 1 ≤ a.size := by omega
  have HT := Lib.hid ht
  have HA := Lib.hid ha
  have HR := Lib.hid R
  have i1 := R.inn
  have i2 := R.eb
  have i3 := R.ef
  have i4 := R.eu
  have HB := Lib.hid hb
  clear ht ha hb R
  go_enter Tryf.func11, Tryf.ntmps11
  go_wp2_with fail
  refine (zz33_yes _ _ _ _ _ _ h).mono ?_
  rintro e w' ⟨rfl, rfl⟩
  go_wp2_with fail
  refine (zz20_small a.size b.size c.size 0 _ (by omega)).mono ?_
  rintro e w' ⟨rfl, rfl⟩
  go_wp2_with fail
  refine (zz34_no a 91 _ (by omega) HA.out).mono ?_
  rintro e w' ⟨rfl, rfl⟩
  go_wp2_with fail
  refine (zz34_no b 58 _ (by omega) HB.out).mono ?_
  rintro e w' ⟨rfl, rfl⟩
  go_wp2_with fail
  refine (zzident a _).mono ?_
  rintro e w1 ⟨rfl, rfl⟩
  go_wp2_with fail
  refine (zzident b _).mono ?_
  rintro e w1 ⟨rfl, rfl⟩
  go_wp2_with fail
  refine (slice_yn F a b (w.heap.size + 1) w.heap.size (w.heap.size + 1 + 1) _ (by exact hF) (by omega) (by omega) (by simp [go_sem]) (by simp [go_sem]) (by simp [go_sem]) (by simp [go_sem]) (by simp [go_sem])).mono ?_
  rintro e w2 ⟨rfl, hb2⟩
  rw [HT.out]
  have HB2 := Lib.hid hb2
  clear hb2
  go_wp2_with fail
  refine (zz35_at t 91 _ (by omega) a.size (by omega) (HR.out.at91 (by omega)) HR.out.no91).mono ?_
  rintro e w' ⟨rfl, rfl⟩
  go_wp2_with fail
  refine (zz35_at inner 58 _ (by omega) b.size (by omega) (HR.out.at58 (by omega)) HR.out.no58).mono ?_
  rintro e w' ⟨rfl, rfl⟩
  go_wp2
  go_ret
  exact ⟨rfl, ((((Below.refl _ w).alloc (Nat.le_refl _) _).alloc (by simp) _).alloc (by simp; omega) _).trans (HB2.out.mono (by simp; omega))⟩

set_option maxHeartbeats 1000000 in
theorem p11_yy (F : Interp) (a b c t inner : ByteArray) (w : World) (hF : F.told.answers w.tape) (h : a.size + b.size + c.size ≤ 1048576)
    (ht : bs (a.data.toList ++ [91] ++ b.data.toList ++ [58] ++ c.data.toList ++ [93]) = t) (R : Rt t a inner b c)
    (ha : ∀ k (hk : k < a.size), a[k] ≠ 91) (hb : ∀ k (hk : k < b.size), b[k] ≠ 58) (hb0 : b.toList.isEmpty = false) (hc0 : c.toList.isEmpty = false) :
    Calls Tryf.prog 11 #[.string a, .string b, .string c, .bool true, .bool true] w fun e w' => e = .returned (.bool true) ∧ Below w.heap.size w w' := by
  have r1 : t.size ≤ a.size + b.size + c.size + 3 := Nat.le_of_eq R.size
  have r1' : a.size + b.size + c.size + 3 ≤ t.size := Nat.le_of_eq R.size.symm
  have r2 : inner.size ≤ b.size + c.size + 1 := Nat.le_of_eq R.isize
  have r2' : b.size + c.size + 1 ≤ inner.size := Nat.le_of_eq R.isize.symm
  have hl1 : t.size - 1 < t.size := by omega
  have e1 : (((t[t.size - 1]'hl1).toNat : Int) != 93) = false := by rw [R.last hl1]; rfl
  have hz : ((t.size : Int) == 0) = false := by simp only [beq_eq_false_iff_ne, ne_eq]; omega
  have hne : ¬ t = ByteArray.empty := by intro e; rw [e] at r1'; simp at r1'
  have q1 : ¬ (a.size : Int) < 0 := by omega
  have q2 : ¬ (t.size : Int) - 1 ≤ a.size := by omega
  have HT := Lib.hid ht
  have HA := Lib.hid ha
  have HR := Lib.hid R
  have i1 := R.inn
  have i2 := R.eb
  have i3 := R.ef
  have i4 := R.eu
  have HB := Lib.hid hb
  clear ht ha hb R
  go_enter Tryf.func11, Tryf.ntmps11
  go_wp2_with fail
  refine (zz33_yes _ _ _ _ _ _ h).mono ?_
  rintro e w' ⟨rfl, rfl⟩
  go_wp2_with fail
  refine (zz20_small a.size b.size c.size 0 _ (by omega)).mono ?_
  rintro e w' ⟨rfl, rfl⟩
  go_wp2_with fail
  refine (zz34_no a 91 _ (by omega) HA.out).mono ?_
  rintro e w' ⟨rfl, rfl⟩
  go_wp2_with fail
  refine (zz34_no b 58 _ (by omega) HB.out).mono ?_
  rintro e w' ⟨rfl, rfl⟩
  go_wp2_with fail
  refine (zzident a _).mono ?_
  rintro e w1 ⟨rfl, rfl⟩
  go_wp2_with fail
  refine (zzident b _).mono ?_
  rintro e w1 ⟨rfl, rfl⟩
  go_wp2_with fail
  refine (zzident c _).mono ?_
  rintro e w1 ⟨rfl, rfl⟩
  go_wp2_with fail
  refine (slice_yy F a b c (w.heap.size + 1) w.heap.size (w.heap.size + 1 + 1) (w.heap.size + 1 + 1 + 1) _ (by exact hF) (by omega) (by omega) (by omega) (by simp [go_sem]) (by simp [go_sem]) (by simp [go_sem]) (by simp [go_sem]) (by simp [go_sem]) (by simp [go_sem])).mono ?_
  rintro e w2 ⟨rfl, hb2⟩
  rw [HT.out]
  have HB2 := Lib.hid hb2
  clear hb2
  go_wp2_with fail
  refine (zz35_at t 91 _ (by omega) a.size (by omega) (HR.out.at91 (by omega)) HR.out.no91).mono ?_
  rintro e w' ⟨rfl, rfl⟩
  go_wp2_with fail
  refine (zz35_at inner 58 _ (by omega) b.size (by omega) (HR.out.at58 (by omega)) HR.out.no58).mono ?_
  rintro e w' ⟨rfl, rfl⟩
  go_wp2
  go_ret
  exact ⟨rfl, (((((Below.refl _ w).alloc (Nat.le_refl _) _).alloc (by simp) _).alloc (by simp; omega) _).alloc (by simp; omega) _).trans (HB2.out.mono (by simp; omega))⟩

set_option maxHeartbeats 400000 in
theorem p11_91 (a b c : ByteArray) (x y : Bool) (w : World) (h : a.size + b.size + c.size ≤ 1048576) (j : Nat) (hj : j < a.size) (e91 : a[j] = 91) (hb : ∀ k (hk : k < a.size), k < j → a[k] ≠ 91) :
    Calls Tryf.prog 11 #[.string a, .string b, .string c, .bool x, .bool y] w fun e w' => e = .returned (.bool true) ∧ Below w.heap.size w w' := by
  have HE := Lib.hid e91
  have HB := Lib.hid hb
  clear e91 hb
  go_enter Tryf.func11, Tryf.ntmps11
  go_wp2_with fail
  refine (zz33_yes _ _ _ _ _ _ h).mono ?_
  rintro e w' ⟨rfl, rfl⟩
  go_wp2_with fail
  refine (zz20_small a.size b.size c.size 0 _ (by omega)).mono ?_
  rintro e w' ⟨rfl, rfl⟩
  go_wp2_with fail
  refine (zz34_yes a 91 _ (by omega) j hj HE.out HB.out).mono ?_
  rintro e w' ⟨rfl, rfl⟩
  go_wp2
  go_ret
  exact ⟨rfl, Below.refl _ _⟩

set_option maxHeartbeats 400000 in
theorem p11_b0 (a b c : ByteArray) (y : Bool) (w : World) (h : a.size + b.size + c.size ≤ 1048576) (ha : ∀ k (hk : k < a.size), a[k] ≠ 91) (hb0 : b.toList.isEmpty = true) :
    Calls Tryf.prog 11 #[.string a, .string b, .string c, .bool true, .bool y] w fun e w' => e = .returned (.bool true) ∧ Below w.heap.size w w' := by
  have HA := Lib.hid ha
  clear ha
  go_enter Tryf.func11, Tryf.ntmps11
  go_wp2_with fail
  refine (zz33_yes _ _ _ _ _ _ h).mono ?_
  rintro e w' ⟨rfl, rfl⟩
  go_wp2_with fail
  refine (zz20_small a.size b.size c.size 0 _ (by omega)).mono ?_
  rintro e w' ⟨rfl, rfl⟩
  go_wp2_with fail
  refine (zz34_no a 91 _ (by omega) HA.out).mono ?_
  rintro e w' ⟨rfl, rfl⟩
  go_wp2
  go_ret
  exact ⟨rfl, Below.refl _ _⟩

set_option maxHeartbeats 400000 in
theorem p11_b58 (a b c : ByteArray) (y : Bool) (w : World) (h : a.size + b.size + c.size ≤ 1048576) (ha : ∀ k (hk : k < a.size), a[k] ≠ 91) (hb0 : b.toList.isEmpty = false) (j : Nat) (hj : j < b.size) (e58 : b[j] = 58) (hb : ∀ k (hk : k < b.size), k < j → b[k] ≠ 58) :
    Calls Tryf.prog 11 #[.string a, .string b, .string c, .bool true, .bool y] w fun e w' => e = .returned (.bool true) ∧ Below w.heap.size w w' := by
  have HA := Lib.hid ha
  have HE := Lib.hid e58
  have HB := Lib.hid hb
  clear ha e58 hb
  go_enter Tryf.func11, Tryf.ntmps11
  go_wp2_with fail
  refine (zz33_yes _ _ _ _ _ _ h).mono ?_
  rintro e w' ⟨rfl, rfl⟩
  go_wp2_with fail
  refine (zz20_small a.size b.size c.size 0 _ (by omega)).mono ?_
  rintro e w' ⟨rfl, rfl⟩
  go_wp2_with fail
  refine (zz34_no a 91 _ (by omega) HA.out).mono ?_
  rintro e w' ⟨rfl, rfl⟩
  go_wp2_with fail
  refine (zz34_yes b 58 _ (by omega) j hj HE.out HB.out).mono ?_
  rintro e w' ⟨rfl, rfl⟩
  go_wp2
  go_ret
  exact ⟨rfl, Below.refl _ _⟩

set_option maxHeartbeats 400000 in
theorem p11_yc0 (a b c : ByteArray) (w : World) (h : a.size + b.size + c.size ≤ 1048576) (ha : ∀ k (hk : k < a.size), a[k] ≠ 91) (hb : ∀ k (hk : k < b.size), b[k] ≠ 58) (hb0 : b.toList.isEmpty = false) (hc0 : c.toList.isEmpty = true) :
    Calls Tryf.prog 11 #[.string a, .string b, .string c, .bool true, .bool true] w fun e w' => e = .returned (.bool true) ∧ Below w.heap.size w w' := by
  have HA := Lib.hid ha
  have HB := Lib.hid hb
  clear ha hb
  go_enter Tryf.func11, Tryf.ntmps11
  go_wp2_with fail
  refine (zz33_yes _ _ _ _ _ _ h).mono ?_
  rintro e w' ⟨rfl, rfl⟩
  go_wp2_with fail
  refine (zz20_small a.size b.size c.size 0 _ (by omega)).mono ?_
  rintro e w' ⟨rfl, rfl⟩
  go_wp2_with fail
  refine (zz34_no a 91 _ (by omega) HA.out).mono ?_
  rintro e w' ⟨rfl, rfl⟩
  go_wp2_with fail
  refine (zz34_no b 58 _ (by omega) HB.out).mono ?_
  rintro e w' ⟨rfl, rfl⟩
  go_wp2
  go_ret
  exact ⟨rfl, Below.refl _ _⟩

set_option maxHeartbeats 400000 in
theorem p11_nc0 (a b c : ByteArray) (w : World) (h : a.size + b.size + c.size ≤ 1048576) (ha : ∀ k (hk : k < a.size), a[k] ≠ 91) (hc0 : c.toList.isEmpty = true) :
    Calls Tryf.prog 11 #[.string a, .string b, .string c, .bool false, .bool true] w fun e w' => e = .returned (.bool true) ∧ Below w.heap.size w w' := by
  have HA := Lib.hid ha
  clear ha
  go_enter Tryf.func11, Tryf.ntmps11
  go_wp2_with fail
  refine (zz33_yes _ _ _ _ _ _ h).mono ?_
  rintro e w' ⟨rfl, rfl⟩
  go_wp2_with fail
  refine (zz20_small a.size b.size c.size 0 _ (by omega)).mono ?_
  rintro e w' ⟨rfl, rfl⟩
  go_wp2_with fail
  refine (zz34_no a 91 _ (by omega) HA.out).mono ?_
  rintro e w' ⟨rfl, rfl⟩
  go_wp2
  go_ret
  exact ⟨rfl, Below.refl _ _⟩

set_option maxHeartbeats 400000 in
theorem p11_no (a b c : ByteArray) (x y : Bool) (w : World) (h : 1048576 < a.size + b.size + c.size) (ha : a.size ≤ 140737488355328) (hb : b.size ≤ 140737488355328) (hc : c.size ≤ 140737488355328) :
    Calls Tryf.prog 11 #[.string a, .string b, .string c, .bool x, .bool y] w fun e w' => e = .returned (.bool true) ∧ Below w.heap.size w w' := by
  go_enter Tryf.func11, Tryf.ntmps11
  go_wp2_with fail
  refine (zz33_no _ _ _ _ _ _ h ha hb hc).mono ?_
  rintro e w' ⟨rfl, rfl⟩
  go_wp2
  go_ret
  exact ⟨rfl, Below.refl _ _⟩

end Go.Proofs.YtjpkoddghagdgaaFmtR
