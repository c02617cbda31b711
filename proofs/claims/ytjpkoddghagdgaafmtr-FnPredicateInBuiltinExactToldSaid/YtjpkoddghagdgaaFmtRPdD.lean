/-
  BuiltinNode.String over a leaf and a predicate over a call. No condition but those in each statement.
-/
import Derived.Test.YtjpkoddghagdgaaFmtRPdN
import Derived.Deep.RegionWith
namespace Go.Proofs.YtjpkoddghagdgaaFmtR
open Go.RowKit Go.Extern.Stop Go.Stop Go.Extern

theorem ownsRow_below {w w' : World} {base m g cap n size : Nat} {e : TypeId} {xs : List Value} (h : w.ownsRow base e size (.slice (some ⟨g, 0, none⟩) n cap) n xs) (hb : Below m w w') (hg : g < m) : w'.ownsRow base e size (.slice (some ⟨g, 0, none⟩) n cap) n xs := by
  refine ⟨h.1, ?_⟩
  rcases h.2 with hn | ⟨g', cap', cur, hv, hb1, hgg, rest⟩
  · exact .inl hn
  · refine .inr ⟨g', cap', cur, hv, hb1, ?_, rest⟩
    simp only [Value.slice.injEq, Option.some.injEq, Addr.mk.injEq, and_true, true_and] at hv
    obtain ⟨rfl, rfl⟩ := hv
    rw [hb.block g hg]
    exact hgg

def builtTxt (name coll callee : ByteArray) (xs : List ByteArray) : List UInt8 := name.data.toList ++ [40] ++ (coll.data.toList ++ [44, 32] ++ callTxt callee xs) ++ [41]

theorem callTxt_len (callee : ByteArray) (xs : List ByteArray) (hc : callee.size ≤ 1048576) (ht : tot xs ≤ 1048576) (hn : xs.length ≤ 65536) : (callTxt callee xs).length ≤ 4194304 := by
  have h := joined_le [44, 32] xs
  simp only [callTxt, List.length_append, List.length_cons, List.length_nil, size_list] at h ⊢
  omega

theorem joined_two (sep : List UInt8) (x y : ByteArray) : joined sep [x, y] = x.data.toList ++ sep ++ y.data.toList := by
  simp [joined, Lib.join_cons, Lib.joinTail]

set_option maxRecDepth 10000 in
set_option maxHeartbeats 2000000 in
theorem builtin_str (F : Interp) (Bk ag ci P : Nat) (name coll callee : ByteArray) (xs : List ByteArray) (w : World) (hF : F.told.answers w.tape) (hnm : name.size ≤ 1048576) (hco : coll.size ≤ 1048576) (hc : callee.size ≤ 1048576) (ht : tot xs ≤ 1048576) (hn : xs.length ≤ 65536)
    (h11 : w.cell? ⟨Bk, 11, none⟩ = some (.string name)) (h12 : w.cell? ⟨Bk, 12, none⟩ = some (.slice (some ⟨ag, 0, none⟩) 2 2)) (hBk : Bk < w.heap.size) (hag : ag < w.heap.size)
    (ha0 : w.cell? ⟨ag, 0, none⟩ = some (.iface 63 (.pointer (some ⟨ci, 0, none⟩)))) (ha1 : w.cell? ⟨ag, 1, none⟩ = some (.iface 61 (.pointer (some ⟨P, 0, none⟩)))) (hci : ci < w.heap.size) (hid : w.cell? ⟨ci, 11, none⟩ = some (.string coll))
    (v : Value) (hP : P < w.heap.size) (hPv : w.cell? ⟨P, 11, none⟩ = some v) (hch : Chain callee xs w 0 v) :
    Calls Tryf.prog 25 #[.pointer (some ⟨Bk, 0, none⟩)] w fun e w' => GaveStr (builtTxt name coll callee xs) w e w' := by
  obtain ⟨i0, hi, hz0, hz1, hz2⟩ := info_parts Tryf.info9
  have hcl := callTxt_len callee xs hc ht hn
  obtain ⟨J, hJ⟩ : ∃ J, J = coll.data.toList ++ [44, 32] ++ callTxt callee xs := ⟨_, rfl⟩
  have hJl : J.length ≤ 8388608 := by rw [hJ]; simp only [List.length_append, List.length_cons, List.length_nil, size_list]; omega
  have htxt := told_text F (text_call name.data.toList J (by rw [size_list]; omega) (by omega)) (by simp only [List.length_append, List.length_cons, List.length_nil, size_list]; omega)
  have HT : Hid (FmtStop.textOf (F.told "fmt.Sprintf" [[37, 115, 40, 37, 115, 41], Tryf.shape9, FmtStop.pack name.data.toList, Tryf.shape9, FmtStop.pack (bs J).data.toList] 0) = bs (builtTxt name coll callee xs)) := by
    unfold builtTxt
    rw [← hJ]
    exact htxt
  have HJ0 := Lib.hid hJ
  clear hJ
  have HCH := Lib.hid hch
  clear htxt hch
  go_enter Tryf.func25, Tryf.ntmps25
  go_wp2_with (at_make; refine wpList_make_full _ rfl _ _ 57 rfl w.heap.size 9 i0 (.string ⟨#[]⟩) 1 Tryf.underlying57 hi hz0 hz1 .i64 .i64 _ _ 2 rfl rfl rfl rfl ?c2 ?c3 ?c4 ?_)
  case c2 => rw [hz2]; omega
  case c3 => unfold maxLen; omega
  case c4 => exact Nat.le_refl _
  intro w1 hown1 hg1
  simp only [toList_madeCells_one] at hown1
  have hb1 : Below w.heap.size w w1 := (Below.refl _ w).grown hg1 (Nat.le_refl _) (fun k e => by cases e)
  have hlt1 : w.heap.size < w1.heap.size := (hown1.lt w.heap.size rfl).2
  have b12 : w1.cell? ⟨Bk, 12, none⟩ = some (.slice (some ⟨ag, 0, none⟩) 2 2) := (hb1.cell (p := ⟨Bk, 12, none⟩) hBk).trans h12
  have b0 : w1.cell? ⟨ag, 0, none⟩ = some (.iface 63 (.pointer (some ⟨ci, 0, none⟩))) := (hb1.cell (p := ⟨ag, 0, none⟩) hag).trans ha0
  have bid : w1.cell? ⟨ci, 11, none⟩ = some (.string coll) := (hb1.cell (p := ⟨ci, 11, none⟩) hci).trans hid
  have bo : w1.cell? ⟨w.heap.size, 0, none⟩ = some (.string ⟨#[]⟩) := hown1.cellAt 0 (by omega)
  have bf : w1.frozen? ⟨w.heap.size, 0, none⟩ = false := hown1.frozenAt 0
  have hst := (hown1.stored 0 (.string coll)).1
  have hb2 : Below w.heap.size w (w1.setCell ⟨w.heap.size, 0, none⟩ (.string coll)) := hb1.setCell (p := ⟨w.heap.size, 0, none⟩) (Nat.le_refl _) _
  have c1 : w1.cell? ⟨ag, 1, none⟩ = some (.iface 61 (.pointer (some ⟨P, 0, none⟩))) := (hb1.cell (p := ⟨ag, 1, none⟩) hag).trans ha1
  have HST := Lib.hid hst
  have HB2 := Lib.hid hb2
  have HB1 := Lib.hid hb1
  clear hst hb2 hb1 hown1 hg1
  go_wp2
  refine wp_loop_rounds 3 ?_
  rw [rounds_succ]
  go_wp2_with fail
  refine (ident_str coll ci _ bid).mono ?_
  rintro e w' ⟨rfl, rfl⟩
  go_wp2_with fail
  rw [rounds_succ]
  have HW2 := Lib.hid (Eq.refl (w1.setCell ⟨w.heap.size, 0, none⟩ (.string coll)))
  obtain ⟨w2, hw2⟩ : ∃ w2, w2 = w1.setCell ⟨w.heap.size, 0, none⟩ (.string coll) := ⟨_, rfl⟩
  rw [← hw2]
  have c1 : w2.cell? ⟨ag, 1, none⟩ = some (.iface 61 (.pointer (some ⟨P, 0, none⟩))) := by rw [hw2]; exact (HB2.out.cell (p := ⟨ag, 1, none⟩) hag).trans ha1
  have cP : w2.cell? ⟨P, 11, none⟩ = some v := by rw [hw2]; exact (HB2.out.cell (p := ⟨P, 11, none⟩) hP).trans hPv
  have hst : w2.ownsRow w.heap.size 9 1 (.slice (some ⟨w.heap.size, 0, none⟩) 2 2) 2 [.string coll, .string ⟨#[]⟩] := by rw [hw2]; exact HST.out
  have hb2 : Below w.heap.size w w2 := by rw [hw2]; exact HB2.out
  have hch2 : Hid (Chain callee xs w2 0 v) := Chain.below hb2 (Nat.le_refl _) 0 v HCH.out
  have hlt2 : w.heap.size < w2.heap.size := by rw [hw2]; simpa [World.setCell] using hlt1
  have HST2 := Lib.hid hst
  have HBB2 := Lib.hid hb2
  clear hw2 hst hb2 b12 b0 bid bo bf HB2 HB1 HST HW2
  go_wp2_with fail
  refine (pred_str F callee xs hc ht hn w2 (by rw [HBB2.out.tape]; exact hF) 0 P v cP hch2.out).mono ?_
  rintro e w3 ⟨rfl, hb3⟩
  have hst3 := ownsRow_below HST2.out hb3 hlt2
  have do1 : w3.cell? ⟨w.heap.size, 1, none⟩ = some (.string ⟨#[]⟩) := hst3.cellAt 1 (by omega)
  have dof : w3.frozen? ⟨w.heap.size, 1, none⟩ = false := hst3.frozenAt 1
  have hst4 := (hst3.stored 1 (.string (bs (callTxt callee xs)))).1
  have hb4 : Below w.heap.size w (w3.setCell ⟨w.heap.size, 1, none⟩ (.string (bs (callTxt callee xs)))) := (HBB2.out.trans (hb3.mono (by omega))).setCell (p := ⟨w.heap.size, 1, none⟩) (Nat.le_refl _) _
  have hlt4 : w.heap.size < (w3.setCell ⟨w.heap.size, 1, none⟩ (.string (bs (callTxt callee xs)))).heap.size := by have := hb3.size; simp [World.setCell]; omega
  have HST4 := Lib.hid hst4
  have HB4 := Lib.hid hb4
  clear hst3 hst4 hb4 hb3
  go_wp2_with fail
  rw [rounds_succ]
  obtain ⟨w4, hw4⟩ : ∃ w4, w4 = w3.setCell ⟨w.heap.size, 1, none⟩ (.string (bs (callTxt callee xs))) := ⟨_, rfl⟩
  rw [← hw4] at hlt4 ⊢
  have hst4 : w4.ownsRow w.heap.size 9 1 (.slice (some ⟨w.heap.size, 0, none⟩) 2 2) 2 [.string coll, .string (bs (callTxt callee xs))] := by rw [hw4]; exact HST4.out
  have hb4 : Below w.heap.size w w4 := by rw [hw4]; exact HB4.out
  have e11 : w4.cell? ⟨Bk, 11, none⟩ = some (.string name) := (hb4.cell (p := ⟨Bk, 11, none⟩) hBk).trans h11
  have hcells : Hid (∀ (j : Nat) x, [coll, bs (callTxt callee xs)][j]? = some x → w4.cell? ⟨w.heap.size, 0 + j, none⟩ = some (.string x)) := fun j x hx => by
    rw [Nat.zero_add]
    match j, hx with
    | 0, hx => simp at hx; subst hx; exact hst4.cellAt 0 (by omega)
    | 1, hx => simp at hx; subst hx; exact hst4.cellAt 1 (by omega)
  have HBB4 := Lib.hid hb4
  have hj2 : (joined [44, 32] [coll, bs (callTxt callee xs)]).length ≤ 140737488355328 := by
    rw [joined_two]
    simp only [List.length_append, List.length_cons, List.length_nil, size_list, bs_list]
    omega
  have HJ : Hid (∀ W : World, (∀ (j : Nat) x, [coll, bs (callTxt callee xs)][j]? = some x → W.cell? ⟨w.heap.size, 0 + j, none⟩ = some (.string x)) → w.heap.size < W.heap.size → Calls Tryf.prog 37 #[.slice (some ⟨w.heap.size, 0, none⟩) 2 2, .string ⟨#[44, 32]⟩] W fun e w' => e = .returned (.string (bs J)) ∧ Below W.heap.size W w') := fun W h h2 =>
    (Tryf.strings_Join w.heap.size 0 2 [coll, bs (callTxt callee xs)] ⟨#[44, 32]⟩ W h h2 (by simp) (Nat.le_refl _) hj2).mono fun e w' hh => ⟨by rw [hh.1]; exact ret_str' (congrArg bs ((joined_two [44, 32] coll (bs (callTxt callee xs))).trans HJ0.out.symm)), hh.2⟩
  have hsb4 : Bk < w4.heap.size := by omega
  clear hw4 HST4 HB4 hst4 hb4 do1 dof c1 cP HST2 hj2
  go_wp2_with fail
  go_region_with (go_at_call 37; go_loud (refine (HJ.out w4.drew (fun j x hx => hcells.out j x hx) hlt4).mono ?_); rintro e w5 ⟨rfl, hb5⟩; have f11 : w5.cell? ⟨Bk, 11, none⟩ = some (.string name) := (hb5.cell (p := ⟨Bk, 11, none⟩) hsb4).trans e11; have hF5 := answers_open (show F.told.answers w5.tape by rw [hb5.tape]; show F.told.answers w4.tape; rw [HBB4.out.tape]; exact hF))
  all_goals
    go_wp2
    go_ret
    exact ⟨ret_str' HT.out, (((HBB4.out.drew.trans (hb5.mono (by show w.heap.size ≤ w4.heap.size; omega)))).alloc (by have := hb5.size; simp at this; omega) _).drew⟩

end Go.Proofs.YtjpkoddghagdgaaFmtR
