/-
  PredicateNode.String over a chain of predicates, and the walk of FnPredicateNestingTransparent. No condition but those in each statement.
-/
import Derived.Test.YtjpkoddghagdgaaFmtRPdC
namespace Go.Proofs.YtjpkoddghagdgaaFmtR
open Go.RowKit Go.Extern.Stop Go.Stop Go.Extern

@[go_sem] theorem meth_call (a : Addr) (w : World) : (method 554 62 (.pointer (some a)) "String").run Tryf.prog w = .ok (137, .pointer (some a)) w := by kernel_rfl
@[go_sem] theorem meth_pred (a : Addr) (w : World) : (method 554 61 (.pointer (some a)) "String").run Tryf.prog w = .ok (136, .pointer (some a)) w := by kernel_rfl

/-- k predicates around a call. -/
def Chain (callee : ByteArray) (xs : List ByteArray) (w : World) : Nat → Value → Prop
  | 0, v => ∃ P, v = .iface 62 (.pointer (some ⟨P, 0, none⟩)) ∧ CallAt w P callee xs
  | k + 1, v => ∃ P v', v = .iface 61 (.pointer (some ⟨P, 0, none⟩)) ∧ P < w.heap.size ∧ w.cell? ⟨P, 11, none⟩ = some v' ∧ Chain callee xs w k v'

theorem Chain.below {callee : ByteArray} {xs : List ByteArray} {w w' : World} {n : Nat} (hb : Below n w w') (hn : w.heap.size ≤ n) : ∀ (k : Nat) (v : Value), Chain callee xs w k v → Chain callee xs w' k v
  | 0, _, ⟨P, h1, h2⟩ => ⟨P, h1, h2.below hb hn⟩
  | k + 1, _, ⟨P, v', h1, h2, h3, h4⟩ => ⟨P, v', h1, Nat.lt_of_lt_of_le h2 hb.size, (hb.cell (p := ⟨P, 11, none⟩) (Nat.lt_of_lt_of_le h2 hn)).trans h3, Chain.below hb hn k v' h4⟩

set_option maxHeartbeats 1000000 in
theorem pred_str (F : Interp) (callee : ByteArray) (xs : List ByteArray) (hc : callee.size ≤ 1048576) (ht : tot xs ≤ 1048576) (hn : xs.length ≤ 65536) (w : World) (hF : F.told.answers w.tape) :
    ∀ (k P : Nat) (v : Value), w.cell? ⟨P, 11, none⟩ = some v → Chain callee xs w k v → Calls Tryf.prog 136 #[.pointer (some ⟨P, 0, none⟩)] w fun e w' => GaveStr (callTxt callee xs) w e w'
  | 0, P, v, hcell, hch => by
    obtain ⟨Q, rfl, hQ⟩ := hch
    have HQ := Lib.hid hQ
    clear hQ
    go_enter Tryf.func136, Tryf.ntmps136
    go_wp2_with fail
    refine (call_str F Q callee xs _ (by exact hF) hc ht hn HQ.out).mono ?_
    rintro e w1 ⟨rfl, hb⟩
    go_wp2
    go_ret
    exact ⟨rfl, hb⟩
  | k + 1, P, v, hcell, hch => by
    obtain ⟨Q, v', rfl, hQ1, hQ2, hQ3⟩ := hch
    have ih := Lib.hid (pred_str F callee xs hc ht hn w hF k Q v' hQ2 hQ3)
    clear hQ2 hQ3
    go_enter Tryf.func136, Tryf.ntmps136
    go_wp2_with fail
    refine ih.out.mono ?_
    rintro e w1 ⟨rfl, hb⟩
    go_wp2
    go_ret
    exact ⟨rfl, hb⟩

theorem Chain.shape {callee : ByteArray} {xs : List ByteArray} {w : World} : ∀ (k : Nat) (v : Value), Chain callee xs w k v → ∃ T p, v = .iface T (.pointer (some ⟨p, 0, none⟩))
  | 0, _, ⟨P, h1, _⟩ => ⟨62, P, h1⟩
  | _ + 1, _, ⟨P, _, h1, _⟩ => ⟨61, P, h1⟩

theorem callAt_new {w : World} {cs : Array Value} {t : TypeId} {ci g : Nat} {callee : ByteArray} {xs : List ByteArray} (h11 : cs[11]? = some (.iface 63 (.pointer (some ⟨ci, 0, none⟩)))) (h12 : cs[12]? = some (.slice (some ⟨g, 0, none⟩) xs.length xs.length))
    (hci : ci < w.heap.size) (hid : w.cell? ⟨ci, 11, none⟩ = some (.string callee)) (hL : Leaves w g xs) : CallAt (w.alloc (.cells cs t)) w.heap.size callee xs := by
  have hb : Below w.heap.size w (w.alloc (.cells cs t)) := (Below.refl _ w).alloc (Nat.le_refl _) _
  refine ⟨by simp, ⟨ci, by simp; omega, by simp [go_sem, h11], (hb.cell (p := ⟨ci, 11, none⟩) hci).trans hid⟩, ⟨g, by simp [go_sem, h12], hL.below hb (Nat.le_refl _)⟩⟩

theorem chain_new {w : World} {cs : Array Value} {t : TypeId} {callee : ByteArray} {xs : List ByteArray} {k : Nat} {v : Value} (h11 : cs[11]? = some v) (h : Chain callee xs w k v) : Chain callee xs (w.alloc (.cells cs t)) (k + 1) (.iface 61 (.pointer (some ⟨w.heap.size, 0, none⟩))) := by
  have hb : Below w.heap.size w (w.alloc (.cells cs t)) := (Below.refl _ w).alloc (Nat.le_refl _) _
  exact ⟨w.heap.size, v, rfl, by simp, by simp [go_sem, h11], Chain.below hb (Nat.le_refl _) k v h⟩

set_option maxRecDepth 10000 in
set_option maxHeartbeats 2000000 in
theorem n7_yes (F : Interp) (s : ByteArray) (a : Option Addr) (c b o : Nat) (xs : List ByteArray) (n : Nat) (w : World) (hF : F.told.answers w.tape) (hs : s.size ≤ 9223372036854775807) (h4 : xs.length ≤ 4096) (hn : n ≤ 1024) (hx : IsStrs w a b o xs) :
    Calls Tryf.prog 7 #[.string s, .slice a xs.length c, .int .i64 n] w fun e w' => e = .returned (.bool true) ∧ Below w.heap.size w w' := by
  have HX := Lib.hid hx
  clear hx
  go_enter Tryf.func7, Tryf.ntmps7
  go_wp2_with fail
  refine (zz26 s a c b o xs n _ hs HX.out).mono ?_
  rintro e w' ⟨r, rfl, rfl, hr⟩
  cases r
  · go_wp2
    go_ret
    exact ⟨rfl, Below.refl _ _⟩
  have hbd := hr rfl
  have hb1 : s.size ≤ 1048576 := by omega
  have hb2 : tot xs ≤ 1048576 := by omega
  clear hr hbd
  go_wp2_with fail
  refine (zz21 a c b o xs _ HX.out).mono ?_
  rintro e w' ⟨t, rfl, rfl⟩
  go_wp2_with fail
  refine (zz20 _ _ _ _ _).mono ?_
  rintro e w' ⟨r, rfl, rfl, -⟩
  cases r
  case true =>
    go_wp2
    go_ret
    exact ⟨rfl, Below.refl _ _⟩
  go_wp2_with (first | (go_at_call 22; go_in) | fail)
  refine (zz23 a c b o xs _ (HX.out.below ((Below.refl w.heap.size w).alloc (Nat.le_refl _) _) (Nat.le_refl _)) (by omega)).mono ?_
  rintro e w2 ⟨g, rfl, hg0, hL, hbm⟩
  have hs2 := hbm.size
  simp at hs2
  have HL := Lib.hid hL
  have HB2 : Hid (Below w.heap.size w w2) := ((Below.refl w.heap.size w).alloc (Nat.le_refl _) _).trans (hbm.mono (by simp))
  have hid : w2.cell? ⟨w.heap.size, 11, none⟩ = some (.string s) := (hbm.cell (p := ⟨w.heap.size, 11, none⟩) (by simp)).trans (by simp [go_sem])
  clear hL hbm
  have hsz2 : w.heap.size < w2.heap.size := by omega
  have HCA : Hid (∀ cs : Array Value, cs[11]? = some (.iface 63 (.pointer (some ⟨w.heap.size, 0, none⟩))) → cs[12]? = some (.slice (some ⟨g, 0, none⟩) xs.length xs.length) → CallAt (w2.alloc (.cells cs 70)) w2.heap.size s xs) := fun cs h11 h12 => callAt_new h11 h12 hsz2 hid HL.out
  clear hid
  go_wp2
  go_loopw [8, 9] (fun y i wr => ∃ (j : Nat) (u : Value), j ≤ n ∧ i = .int .i64 j ∧ u = y ∧ Chain s xs wr j u ∧ Below w.heap.size w wr) (fun _ i _ => n - (intOf i).toNat)
  case atStart => exact ⟨0, _, Nat.zero_le _, rfl, rfl, ⟨_, rfl, HCA.out _ rfl rfl⟩, HB2.out.alloc (by omega) _⟩
  case round =>
    obtain ⟨j, y, hj, rfl, rfl, hch, hb⟩ := hrel
    have HCH := Lib.hid hch
    have HBB := Lib.hid hb
    have hsr := hb.size
    clear hch hb HCA
    by_cases hlt : j < n
    · obtain ⟨T, p, rfl⟩ := Chain.shape _ _ HCH.out
      go_wp2
      go_roundw
      case rel => exact ⟨j + 1, _, by omega, by go_num, rfl, chain_new rfl HCH.out, HBB.out.alloc (by omega) _⟩
      case measure => simp [intOf]; omega
    · have hjn : j = n := by omega
      subst hjn
      have hFr : F.told.answers wr.tape := by rw [HBB.out.tape]; exact hF
      match j, HCH with
      | 0, HCH =>
        obtain ⟨Q, rfl, hQ⟩ := HCH.out
        have HQ := Lib.hid hQ
        clear hQ HCH
        go_wp2_with fail
        refine (call_str F Q s xs _ (by exact hFr) hb1 hb2 (by omega) HQ.out).mono ?_
        rintro e w3 ⟨rfl, hb3⟩
        go_wp2_with fail
        refine (zz24 s a c b o xs _ hb1 hb2 (by omega) (HX.out.below (HBB.out.trans (hb3.mono hsr)) (Nat.le_refl _))).mono ?_
        rintro e w4 ⟨rfl, hb4⟩
        go_wp2
        go_ret
        exact ⟨rfl, (HBB.out.trans (hb3.mono hsr)).trans (hb4.mono (by have := hb3.size; omega))⟩
      | m + 1, HCH =>
        obtain ⟨Q, v', rfl, hQ1, hQ2, hQ3⟩ := HCH.out
        have HQ := Lib.hid (pred_str F s xs hb1 hb2 (by omega) wr hFr m Q v' hQ2 hQ3)
        clear hQ1 hQ2 hQ3 HCH
        go_wp2_with fail
        refine HQ.out.mono ?_
        rintro e w3 ⟨rfl, hb3⟩
        go_wp2_with fail
        refine (zz24 s a c b o xs _ hb1 hb2 (by omega) (HX.out.below (HBB.out.trans (hb3.mono hsr)) (Nat.le_refl _))).mono ?_
        rintro e w4 ⟨rfl, hb4⟩
        go_wp2
        go_ret
        exact ⟨rfl, (HBB.out.trans (hb3.mono hsr)).trans (hb4.mono (by have := hb3.size; omega))⟩

end Go.Proofs.YtjpkoddghagdgaaFmtR
