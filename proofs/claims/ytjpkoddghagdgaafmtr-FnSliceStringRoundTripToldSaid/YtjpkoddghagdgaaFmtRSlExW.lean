/-
  FnSliceStringExact returns true for every base text and every optional bounds, and no argument turns. Conditions: none.
-/
import Derived.Test.YtjpkoddghagdgaaFmtRLawB
import Derived.Test.YtjpkoddghagdgaaFmtRSli
import Derived.Laws.Strings
namespace Go.Proofs.YtjpkoddghagdgaaFmtR
open Go.RowKit Go.Extern.Stop Go.Stop Go.Extern
open Go.ChangeShapes Go.WideShapes Go.ChangeAt Go.Kit
open Go.ChangeMaps (open_string shut_string)

set_option maxHeartbeats 400000 in
theorem zz27_yes (a b c : ByteArray) (x y : Bool) (w : World) (h : a.size + b.size + c.size ≤ 1048576) : Calls Tryf.prog 27 #[.string a, .string b, .string c, .bool x, .bool y] w fun e w' => e = .returned (.bool true) ∧ w = w' := by
  have h1 : a.size ≤ 1048576 := by omega
  have h2 : b.size ≤ 1048576 := by omega
  have h3 : c.size ≤ 1048576 := by omega
  have h4 : a.size + b.size ≤ 1048576 := by omega
  go_enter Tryf.func27, Tryf.ntmps27
  go_wp2
  go_ret
  exact ⟨rfl, rfl⟩
set_option maxHeartbeats 400000 in
theorem zz27_no (a b c : ByteArray) (x y : Bool) (w : World) (h : 1048576 < a.size + b.size + c.size) (_ : a.size ≤ 140737488355328) (_ : b.size ≤ 140737488355328) (_ : c.size ≤ 140737488355328) : Calls Tryf.prog 27 #[.string a, .string b, .string c, .bool x, .bool y] w fun e w' => e = .returned (.bool false) ∧ w = w' := by
  go_enter Tryf.func27, Tryf.ntmps27
  go_wp2
  all_goals
    go_ret
    exact ⟨rfl, rfl⟩
set_option maxHeartbeats 400000 in
theorem zz20_small (a b c d : Nat) (w : World) (h : a + b + c + d ≤ 1048576) : Calls Tryf.prog 20 #[.int .i64 a, .int .i64 b, .int .i64 c, .int .i64 d] w fun e w' => e = .returned (.bool false) ∧ w = w' := by
  have h1 : a ≤ 1048576 := by omega
  have h2 : b ≤ 1048576 := by omega
  have h3 : c ≤ 1048576 := by omega
  have h4 : d ≤ 1048576 := by omega
  go_enter Tryf.func20, Tryf.ntmps20
  go_wp2
  go_ret
  exact ⟨ret_bool' (by simp; omega), rfl⟩
set_option maxHeartbeats 400000 in
theorem zzident (s : ByteArray) (w : World) :
    Calls Tryf.prog 22 #[.string s] w fun e w' => e = .returned (.pointer (some ⟨w.heap.size, 0, none⟩)) ∧ w' = w.alloc (.cells #[.int .i64 0, .int .i64 0, .nilIface, .int .u64 0, .pointer none, .pointer none, .bool false, .bool false, .bool false, .bool false, .bool false, .string s] 90) := by
  go_enter Tryf.func22, Tryf.ntmps22
  go_wp2
  go_ret
  exact ⟨rfl, rfl⟩
set_option maxHeartbeats 400000 in
theorem p8_nn (F : Interp) (a b c : ByteArray) (w : World) (hF : F.told.answers w.tape) (h : a.size + b.size + c.size ≤ 1048576) : Calls Tryf.prog 8 #[.string a, .string b, .string c, .bool false, .bool false] w fun e w' => e = .returned (.bool true) ∧ Below w.heap.size w w' := by
  go_enter Tryf.func8, Tryf.ntmps8
  go_wp2_with fail
  refine (zz27_yes _ _ _ _ _ _ h).mono ?_
  rintro e w' ⟨rfl, rfl⟩
  go_wp2_with fail
  refine (zz20_small a.size b.size c.size 0 _ (by omega)).mono ?_
  rintro e w' ⟨rfl, rfl⟩
  go_wp2_with fail
  refine (zzident a _).mono ?_
  rintro e w1 ⟨rfl, rfl⟩
  go_wp2_with fail
  refine (slice_nn F a (w.heap.size + 1) w.heap.size _ (by exact hF) (by omega) (by simp [go_sem]) (by simp [go_sem]) (by simp [go_sem]) (by simp [go_sem])).mono ?_
  rintro e w2 ⟨rfl, hb2⟩
  go_wp2
  go_ret
  refine ⟨ret_bool' ?_, (((Below.refl _ w).alloc (Nat.le_refl _) _).alloc (by simp) _).trans (hb2.mono (by simp; omega))⟩
  show (ByteArray.toList _ == ByteArray.toList _) = true
  rw [ByteArray.toList_eq, ByteArray.toList_eq]
  simp [bs, ByteArray.data_append]

set_option maxHeartbeats 400000 in
theorem p8_ny (F : Interp) (a b c : ByteArray) (w : World) (hF : F.told.answers w.tape) (h : a.size + b.size + c.size ≤ 1048576) : Calls Tryf.prog 8 #[.string a, .string b, .string c, .bool false, .bool true] w fun e w' => e = .returned (.bool true) ∧ Below w.heap.size w w' := by
  go_enter Tryf.func8, Tryf.ntmps8
  go_wp2_with fail
  refine (zz27_yes _ _ _ _ _ _ h).mono ?_
  rintro e w' ⟨rfl, rfl⟩
  go_wp2_with fail
  refine (zz20_small a.size b.size c.size 0 _ (by omega)).mono ?_
  rintro e w' ⟨rfl, rfl⟩
  go_wp2_with fail
  refine (zzident a _).mono ?_
  rintro e w1 ⟨rfl, rfl⟩
  go_wp2_with fail
  refine (zzident c _).mono ?_
  rintro e w1 ⟨rfl, rfl⟩
  go_wp2_with fail
  refine (slice_ny F a c (w.heap.size + 1) w.heap.size (w.heap.size + 1 + 1) _ (by exact hF) (by omega) (by omega) (by simp [go_sem]) (by simp [go_sem]) (by simp [go_sem]) (by simp [go_sem]) (by simp [go_sem])).mono ?_
  rintro e w2 ⟨rfl, hb2⟩
  go_wp2
  go_ret
  refine ⟨ret_bool' ?_, ((((Below.refl _ w).alloc (Nat.le_refl _) _).alloc (by simp) _).alloc (by simp; omega) _).trans (hb2.mono (by simp; omega))⟩
  show (ByteArray.toList _ == ByteArray.toList _) = true
  rw [ByteArray.toList_eq, ByteArray.toList_eq]
  simp [bs, ByteArray.data_append]

set_option maxHeartbeats 400000 in
theorem p8_yn (F : Interp) (a b c : ByteArray) (w : World) (hF : F.told.answers w.tape) (h : a.size + b.size + c.size ≤ 1048576) : Calls Tryf.prog 8 #[.string a, .string b, .string c, .bool true, .bool false] w fun e w' => e = .returned (.bool true) ∧ Below w.heap.size w w' := by
  go_enter Tryf.func8, Tryf.ntmps8
  go_wp2_with fail
  refine (zz27_yes _ _ _ _ _ _ h).mono ?_
  rintro e w' ⟨rfl, rfl⟩
  go_wp2_with fail
  refine (zz20_small a.size b.size c.size 0 _ (by omega)).mono ?_
  rintro e w' ⟨rfl, rfl⟩
  go_wp2_with fail
  refine (zzident a _).mono ?_
  rintro e w1 ⟨rfl, rfl⟩
  go_wp2_with fail
  refine (zzident b _).mono ?_
  rintro e w1 ⟨rfl, rfl⟩
  go_wp2_with fail
  refine (slice_yn F a b (w.heap.size + 1) w.heap.size (w.heap.size + 1 + 1) _ (by exact hF) (by omega) (by omega) (by simp [go_sem]) (by simp [go_sem]) (by simp [go_sem]) (by simp [go_sem]) (by simp [go_sem])).mono ?_
  rintro e w2 ⟨rfl, hb2⟩
  go_wp2
  go_ret
  refine ⟨ret_bool' ?_, ((((Below.refl _ w).alloc (Nat.le_refl _) _).alloc (by simp) _).alloc (by simp; omega) _).trans (hb2.mono (by simp; omega))⟩
  show (ByteArray.toList _ == ByteArray.toList _) = true
  rw [ByteArray.toList_eq, ByteArray.toList_eq]
  simp [bs, ByteArray.data_append]

set_option maxHeartbeats 400000 in
theorem p8_yy (F : Interp) (a b c : ByteArray) (w : World) (hF : F.told.answers w.tape) (h : a.size + b.size + c.size ≤ 1048576) : Calls Tryf.prog 8 #[.string a, .string b, .string c, .bool true, .bool true] w fun e w' => e = .returned (.bool true) ∧ Below w.heap.size w w' := by
  go_enter Tryf.func8, Tryf.ntmps8
  go_wp2_with fail
  refine (zz27_yes _ _ _ _ _ _ h).mono ?_
  rintro e w' ⟨rfl, rfl⟩
  go_wp2_with fail
  refine (zz20_small a.size b.size c.size 0 _ (by omega)).mono ?_
  rintro e w' ⟨rfl, rfl⟩
  go_wp2_with fail
  refine (zzident a _).mono ?_
  rintro e w1 ⟨rfl, rfl⟩
  go_wp2_with fail
  refine (zzident b _).mono ?_
  rintro e w1 ⟨rfl, rfl⟩
  go_wp2_with fail
  refine (zzident c _).mono ?_
  rintro e w1 ⟨rfl, rfl⟩
  go_wp2_with fail
  refine (slice_yy F a b c (w.heap.size + 1) w.heap.size (w.heap.size + 1 + 1) (w.heap.size + 1 + 1 + 1) _ (by exact hF) (by omega) (by omega) (by omega) (by simp [go_sem]) (by simp [go_sem]) (by simp [go_sem]) (by simp [go_sem]) (by simp [go_sem]) (by simp [go_sem])).mono ?_
  rintro e w2 ⟨rfl, hb2⟩
  go_wp2
  go_ret
  refine ⟨ret_bool' ?_, (((((Below.refl _ w).alloc (Nat.le_refl _) _).alloc (by simp) _).alloc (by simp; omega) _).alloc (by simp; omega) _).trans (hb2.mono (by simp; omega))⟩
  show (ByteArray.toList _ == ByteArray.toList _) = true
  rw [ByteArray.toList_eq, ByteArray.toList_eq]
  simp [bs, ByteArray.data_append]

set_option maxHeartbeats 400000 in
theorem p8_no (a b c : ByteArray) (x y : Bool) (w : World) (h : 1048576 < a.size + b.size + c.size) (ha : a.size ≤ 140737488355328) (hb : b.size ≤ 140737488355328) (hc : c.size ≤ 140737488355328) :
    Calls Tryf.prog 8 #[.string a, .string b, .string c, .bool x, .bool y] w fun e w' => e = .returned (.bool true) ∧ Below w.heap.size w w' := by
  go_enter Tryf.func8, Tryf.ntmps8
  go_wp2_with fail
  refine (zz27_no _ _ _ _ _ _ h ha hb hc).mono ?_
  rintro e w' ⟨rfl, rfl⟩
  go_wp2
  go_ret
  exact ⟨rfl, Below.refl _ _⟩

set_option maxRecDepth 100000 in
theorem slice_exact_contract {H : Type} {enc : TypeId × Value → H} (F : Interp) (W : World) (base : Nat) (args : Array Value) (ds : List (DataW H)) (ps : List MemPlace) (hF : F.told.answers W.tape)
    (hval : ∀ (j : Nat) t v, ([9, 9, 9, 4, 4] : List TypeId)[j]? = some t → args[j]? = some v → Value.okWide Tryf.prog W .any base t v)
    (hA : DataW.TrodAll enc Tryf.prog W 0 (fun _ => true) true [9, 9, 9, 4, 4] args.toList ds ps) (_ : ∀ x ∈ ps, x.block < W.heap.size)
    (hsz : (DataW.weightsEach Tryf.prog [9, 9, 9, 4, 4] ds).all (· ≤ reachBytes) = true) :
    Calls Tryf.prog 8 args W fun e W' => e = .returned (.bool true) ∧ Below W.heap.size W W' := by
  obtain ⟨v0, vs0, d0, ds0, p0, q0, hargs, rfl, rfl, h0, r0⟩ := trodAll_cons hA
  obtain ⟨v1, vs1, d1, ds1, p1, q1, rfl, rfl, rfl, h1, r1⟩ := trodAll_cons r0
  obtain ⟨v2, vs2, d2, ds2, p2, q2, rfl, rfl, rfl, h2, r2⟩ := trodAll_cons r1
  obtain ⟨v3, vs3, d3, ds3, p3, q3, rfl, rfl, rfl, h3, r3⟩ := trodAll_cons r2
  obtain ⟨v4, vs4, d4, ds4, p4, q4, rfl, rfl, rfl, h4, r4⟩ := trodAll_cons r3
  obtain ⟨rfl, rfl, rfl⟩ := trodAll_nil r4
  obtain rfl : args = #[v0, v1, v2, v3, v4] := by apply Array.ext'; exact hargs
  obtain ⟨a, rfl, rfl, rfl, _⟩ := open_string Tryf.underlying9 (hval 0 9 v0 rfl rfl) h0
  obtain ⟨b, rfl, rfl, rfl, _⟩ := open_string Tryf.underlying9 (hval 1 9 v1 rfl rfl) h1
  obtain ⟨c, rfl, rfl, rfl, _⟩ := open_string Tryf.underlying9 (hval 2 9 v2 rfl rfl) h2
  obtain ⟨x, rfl, rfl, rfl⟩ := open_bool Tryf.underlying4 (hval 3 4 v3 rfl rfl) h3
  obtain ⟨y, rfl, rfl, rfl⟩ := open_bool Tryf.underlying4 (hval 4 4 v4 rfl rfl) h4
  have hl0 : a.data.toList.length ≤ reachBytes := sized_string hsz (j := 0) (t := 9) rfl rfl
  have hl1 : b.data.toList.length ≤ reachBytes := sized_string hsz (j := 1) (t := 9) rfl rfl
  have hl2 : c.data.toList.length ≤ reachBytes := sized_string hsz (j := 2) (t := 9) rfl rfl
  have hr47 := reachBytes_lt
  rw [size_list] at hl0 hl1 hl2
  by_cases hn : a.size + b.size + c.size ≤ 1048576
  · cases x <;> cases y
    · exact p8_nn F a b c W hF hn
    · exact p8_ny F a b c W hF hn
    · exact p8_yn F a b c W hF hn
    · exact p8_yy F a b c W hF hn
  · exact p8_no a b c x y W (by omega) (by omega) (by omega) (by omega)

end Go.Proofs.YtjpkoddghagdgaaFmtR
