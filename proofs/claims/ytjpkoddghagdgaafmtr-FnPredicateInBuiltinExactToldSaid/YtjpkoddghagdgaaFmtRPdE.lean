/-
  The walk of FnPredicateInBuiltinExact. No condition but those in each statement.
-/
import Derived.Test.YtjpkoddghagdgaaFmtRPdD
namespace Go.Proofs.YtjpkoddghagdgaaFmtR
open Go.RowKit Go.Extern.Stop Go.Stop Go.Extern

theorem cell_new (w : World) (cs : Array Value) (t : TypeId) (k : Nat) : (w.alloc (.cells cs t)).cell? ⟨w.heap.size, k, none⟩ = cs[k]? := by
  have h := cell_of_row (w.alloc (.cells cs t)) w.heap.size k cs t (0, 0) (heap_alloc_new w _)
  exact h

theorem five {w w' : World} {c1 c2 c3 c4 c5 : Array Value} {t1 t2 t3 t4 t5 : TypeId}
    (h : Below (((((w.alloc (.cells c1 t1)).alloc (.cells c2 t2)).alloc (.cells c3 t3)).alloc (.cells c4 t4)).alloc (.cells c5 t5)).heap.size (((((w.alloc (.cells c1 t1)).alloc (.cells c2 t2)).alloc (.cells c3 t3)).alloc (.cells c4 t4)).alloc (.cells c5 t5)) w') :
    Below w.heap.size w w' ∧ w.heap.size + 5 ≤ w'.heap.size ∧ (∀ k, w'.cell? ⟨w.heap.size, k, none⟩ = c1[k]?) ∧ (∀ k, w'.cell? ⟨w.heap.size + 1, k, none⟩ = c2[k]?) ∧ (∀ k, w'.cell? ⟨w.heap.size + 1 + 1, k, none⟩ = c3[k]?) ∧
      (∀ k, w'.cell? ⟨w.heap.size + 1 + 1 + 1, k, none⟩ = c4[k]?) ∧ (∀ k, w'.cell? ⟨w.heap.size + 1 + 1 + 1 + 1, k, none⟩ = c5[k]?) := by
  have e1 : (w.alloc (.cells c1 t1)).heap.size = w.heap.size + 1 := by simp
  have e2 : ((w.alloc (.cells c1 t1)).alloc (.cells c2 t2)).heap.size = w.heap.size + 1 + 1 := by simp
  have e3 : (((w.alloc (.cells c1 t1)).alloc (.cells c2 t2)).alloc (.cells c3 t3)).heap.size = w.heap.size + 1 + 1 + 1 := by simp
  have e4 : ((((w.alloc (.cells c1 t1)).alloc (.cells c2 t2)).alloc (.cells c3 t3)).alloc (.cells c4 t4)).heap.size = w.heap.size + 1 + 1 + 1 + 1 := by simp
  have e5 : (((((w.alloc (.cells c1 t1)).alloc (.cells c2 t2)).alloc (.cells c3 t3)).alloc (.cells c4 t4)).alloc (.cells c5 t5)).heap.size = w.heap.size + 1 + 1 + 1 + 1 + 1 := by simp
  have b5 : Below _ _ w' := h
  have b4 := ((Below.refl (w.heap.size + 1 + 1 + 1 + 1) _).alloc (by rw [e4]; exact Nat.le_refl _) (.cells c5 t5)).trans (b5.mono (by rw [e5]; omega))
  have b3 := ((Below.refl (w.heap.size + 1 + 1 + 1) _).alloc (by rw [e3]; exact Nat.le_refl _) (.cells c4 t4)).trans (b4.mono (by omega))
  have b2 := ((Below.refl (w.heap.size + 1 + 1) _).alloc (by rw [e2]; exact Nat.le_refl _) (.cells c3 t3)).trans (b3.mono (by omega))
  have b1 := ((Below.refl (w.heap.size + 1) _).alloc (by rw [e1]; exact Nat.le_refl _) (.cells c2 t2)).trans (b2.mono (by omega))
  have b0 := ((Below.refl w.heap.size w).alloc (Nat.le_refl _) (.cells c1 t1)).trans (b1.mono (by omega))
  refine ⟨b0, by have := h.size; rw [e5] at this; omega, fun k => ?_, fun k => ?_, fun k => ?_, fun k => ?_, fun k => ?_⟩
  · exact (b1.cell (p := ⟨w.heap.size, k, none⟩) (by show w.heap.size < w.heap.size + 1; omega)).trans (cell_new _ _ _ _)
  · refine (b2.cell (p := ⟨w.heap.size + 1, k, none⟩) (by show w.heap.size + 1 < w.heap.size + 1 + 1; omega)).trans ?_
    rw [← e1]
    exact cell_new _ _ _ _
  · refine (b3.cell (p := ⟨w.heap.size + 1 + 1, k, none⟩) (by show w.heap.size + 1 + 1 < w.heap.size + 1 + 1 + 1; omega)).trans ?_
    rw [← e2]
    exact cell_new _ _ _ _
  · refine (b4.cell (p := ⟨w.heap.size + 1 + 1 + 1, k, none⟩) (by show w.heap.size + 1 + 1 + 1 < w.heap.size + 1 + 1 + 1 + 1; omega)).trans ?_
    rw [← e3]
    exact cell_new _ _ _ _
  · refine (b5.cell (p := ⟨w.heap.size + 1 + 1 + 1 + 1, k, none⟩) (by rw [e5]; show w.heap.size + 1 + 1 + 1 + 1 < w.heap.size + 1 + 1 + 1 + 1 + 1; omega)).trans ?_
    rw [← e4]
    exact cell_new _ _ _ _

theorem chain0_new {w : World} {P : Nat} {callee : ByteArray} {xs : List ByteArray} (h : CallAt w P callee xs) : Chain callee xs w 0 (.iface 62 (.pointer (some ⟨P, 0, none⟩))) := ⟨P, rfl, h⟩

set_option maxRecDepth 10000 in
set_option maxHeartbeats 2000000 in
theorem b6_yes (F : Interp) (name coll s : ByteArray) (a : Option Addr) (c b o : Nat) (xs : List ByteArray) (w : World) (hF : F.told.answers w.tape) (hn : name.size ≤ 9223372036854775807) (hco : coll.size ≤ 9223372036854775807) (hs : s.size ≤ 9223372036854775807) (h4 : xs.length ≤ 4096) (hx : IsStrs w a b o xs) :
    Calls Tryf.prog 6 #[.string name, .string coll, .string s, .slice a xs.length c] w fun e w' => e = .returned (.bool true) ∧ Below w.heap.size w w' := by
  have HX := Lib.hid hx
  clear hx
  go_enter Tryf.func6, Tryf.ntmps6
  go_wp2_with fail
  refine (zz19 name coll s a c b o xs _ hn hco hs HX.out).mono ?_
  rintro e w' ⟨r, rfl, rfl, hr⟩
  cases r
  · go_wp2
    go_ret
    exact ⟨rfl, Below.refl _ _⟩
  have hbd := hr rfl
  have hb1 : s.size ≤ 1048576 := by omega
  have hb2 : tot xs ≤ 1048576 := by omega
  have hb3 : name.size ≤ 1048576 := by omega
  have hb4 : coll.size ≤ 1048576 := by omega
  clear hr hbd
  go_wp2_with fail
  refine (zz21 a c b o xs _ HX.out).mono ?_
  rintro e w' ⟨t, rfl, rfl⟩
  go_wp2_with fail
  refine (zz20 _ _ _ _ _).mono ?_
  rintro e w' ⟨r, rfl, rfl, -⟩
  cases r
  case true =>
    go_wp2
    go_ret
    exact ⟨rfl, Below.refl _ _⟩
  go_wp2_with (first | (go_at_call 22; go_in) | fail)
  refine (zz23 a c b o xs _ (HX.out.below ((Below.refl w.heap.size w).alloc (Nat.le_refl _) _) (Nat.le_refl _)) (by omega)).mono ?_
  rintro e w2 ⟨g, rfl, hg0, hL, hbm⟩
  have hs2 := hbm.size
  simp at hs2
  have HL := Lib.hid hL
  have HB2 : Hid (Below w.heap.size w w2) := ((Below.refl w.heap.size w).alloc (Nat.le_refl _) _).trans (hbm.mono (by simp))
  have hid : w2.cell? ⟨w.heap.size, 11, none⟩ = some (.string s) := (hbm.cell (p := ⟨w.heap.size, 11, none⟩) (by simp)).trans (by simp [go_sem])
  have HID := Lib.hid hid
  have hsz2 : w.heap.size < w2.heap.size := by omega
  clear hL hbm hid
  go_wp2_with (first | (go_at_call 22; go_in) | fail)
  refine (zz24 s a c b o xs _ hb1 hb2 (by omega) (HX.out.below (HB2.out.trans ((((((Below.refl _ w2).alloc (Nat.le_refl _) _).alloc (by simp) _).alloc (by simp; omega) _).alloc (by simp; omega) _).alloc (by simp; omega) _ |>.mono (Nat.le_of_lt hsz2))) (Nat.le_refl _))).mono ?_
  rintro e w4 ⟨rfl, hb⟩
  obtain ⟨q0, q1, k1, k2, k3, k4, k5⟩ := five hb
  have hca : CallAt w4 w2.heap.size s xs := ⟨by omega, ⟨w.heap.size, by omega, k1 11, (q0.cell (p := ⟨w.heap.size, 11, none⟩) hsz2).trans HID.out⟩, ⟨g, k1 12, HL.out.below q0 (Nat.le_refl _)⟩⟩
  have HBU := Lib.hid (builtin_str F (w2.heap.size + 1 + 1 + 1 + 1) (w2.heap.size + 1 + 1 + 1) (w2.heap.size + 1 + 1) (w2.heap.size + 1) name coll s xs w4 (by rw [q0.tape, HB2.out.tape]; exact hF) hb3 hb4 hb1 hb2 (by omega)
    (k5 11) (k5 12) (by omega) (by omega) (k4 0) (k4 1) (by omega) (k3 11) _ (by omega) (k2 11) (chain0_new hca))
  have HB4 : Hid (Below w.heap.size w w4) := HB2.out.trans (q0.mono (by omega))
  have hs4 : w.heap.size ≤ w4.heap.size := HB4.out.size
  have hct : (bs (callTxt s xs)).size ≤ 4194304 := by rw [bs_size]; exact callTxt_len s xs hb1 hb2 (by omega)
  clear hb q0 k1 k2 k3 k4 k5 hca
  go_wp2_with fail
  refine HBU.out.mono ?_
  rintro e w5 ⟨rfl, hb5⟩
  go_wp2
  go_ret
  refine ⟨ret_bool' ?_, HB4.out.trans (hb5.mono hs4)⟩
  rw [ByteArray.toList_eq, ByteArray.toList_eq, bs_list]
  have e : builtTxt name coll s xs = (name ++ { data := #[40] } ++ coll ++ { data := #[44, 32] } ++ bs (callTxt s xs) ++ { data := #[41] } : ByteArray).data.toList := by
    simp [builtTxt, bs]
  rw [← e]
  exact beq_self_eq_true _

set_option maxHeartbeats 1000000 in
theorem b6_long (name coll s : ByteArray) (a : Option Addr) (c b o : Nat) (xs : List ByteArray) (w : World) (hn : name.size ≤ 9223372036854775807) (hco : coll.size ≤ 9223372036854775807) (hs : s.size ≤ 9223372036854775807) (h4 : 4096 < xs.length) (hx : IsStrs w a b o xs) :
    Calls Tryf.prog 6 #[.string name, .string coll, .string s, .slice a xs.length c] w fun e w' => e = .returned (.bool true) ∧ Below w.heap.size w w' := by
  have HX := Lib.hid hx
  clear hx
  go_enter Tryf.func6, Tryf.ntmps6
  go_wp2_with fail
  refine (zz19 name coll s a c b o xs _ hn hco hs HX.out).mono ?_
  rintro e w' ⟨r, rfl, rfl, hr⟩
  clear hr
  cases r
  · go_wp2
    go_ret
    exact ⟨rfl, Below.refl _ _⟩
  · go_wp2
    go_ret
    exact ⟨rfl, Below.refl _ _⟩

end Go.Proofs.YtjpkoddghagdgaaFmtR
