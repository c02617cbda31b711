/-
  ConditionalNode.String over a ternary chain of identifier leaves. No condition but those in each statement.
-/
import Derived.Test.YtjpkoddghagdgaaFmtRTeA
namespace Go.Proofs.YtjpkoddghagdgaaFmtR
open Go.RowKit Go.Extern.Stop Go.Stop Go.Extern

@[go_sem] theorem meth_cond (a : Addr) (w : World) : (method 554 84 (.pointer (some a)) "String").run Tryf.prog w = .ok (139, .pointer (some a)) w := by kernel_rfl

@[go_sem] theorem ta_no (p : Addr) (w : World) : (Instr.typeAssert (.iface 63 (.pointer (some p))) 68 84 true).run Tryf.prog w = .ok (.tuple #[.pointer none, .bool false]) w := by kernel_rfl
@[go_sem] theorem ta_yes (p : Addr) (w : World) : (Instr.typeAssert (.iface 84 (.pointer (some p))) 68 84 true).run Tryf.prog w = .ok (.tuple #[.pointer (some p), .bool true]) w := by kernel_rfl

abbrev Pair := ByteArray × ByteArray

def clause (c e : ByteArray) : List UInt8 := c.data.toList ++ [32, 63, 32] ++ e.data.toList ++ [32, 58, 32]

def ternTxt (last : ByteArray) : List Pair → List UInt8
  | [] => last.data.toList
  | [p] => clause p.1 p.2 ++ last.data.toList
  | p :: q :: r => clause p.1 p.2 ++ ([40] ++ ternTxt last (q :: r) ++ [41])

def pre : List Pair → List UInt8
  | [] => []
  | p :: r => clause p.1 p.2 ++ r.flatMap (fun q => 40 :: clause q.1 q.2)

theorem tern_eq (last : ByteArray) : ∀ (p : Pair) (r : List Pair), ternTxt last (p :: r) = pre (p :: r) ++ last.data.toList ++ List.replicate r.length 41
  | p, [] => by simp [ternTxt, pre]
  | p, q :: r => by
    rw [ternTxt, tern_eq last q r]
    simp [pre, List.replicate_succ']

def wt (L : List Pair) : Nat := (L.map fun p => p.1.size + p.2.size + 8).sum

theorem clause_len (c e : ByteArray) : (clause c e).length = c.size + e.size + 6 := by
  simp only [clause, List.length_append, List.length_cons, List.length_nil, size_list]
  omega

theorem tern_len (last : ByteArray) : ∀ L : List Pair, (ternTxt last L).length ≤ last.size + wt L
  | [] => by simp [ternTxt, wt]
  | [p] => by
    have := clause_len p.1 p.2
    simp only [ternTxt, wt, List.length_append, List.map_cons, List.map_nil, List.sum_cons, List.sum_nil, size_list]
    omega
  | p :: q :: r => by
    have := clause_len p.1 p.2
    have ih := tern_len last (q :: r)
    simp only [ternTxt, List.length_append, List.length_cons, List.length_nil]
    simp only [wt, List.map_cons, List.sum_cons] at ih ⊢
    omega

theorem pre_len : ∀ L : List Pair, (pre L).length ≤ wt L
  | [] => by simp [pre, wt]
  | p :: r => by
    have h : ∀ r : List Pair, (r.flatMap (fun q => 40 :: clause q.1 q.2)).length ≤ wt r := fun r => by
      induction r with
      | nil => simp [wt]
      | cons q r ih =>
        have := clause_len q.1 q.2
        simp only [wt, List.map_cons, List.sum_cons, List.flatMap_cons, List.length_append, List.length_cons] at ih ⊢
        omega
    have h1 := h r
    have := clause_len p.1 p.2
    simp only [pre, wt, List.map_cons, List.sum_cons, List.length_append] at h1 ⊢
    omega

theorem pre_snoc (L : List Pair) (k : Nat) (h : k < L.length) : pre (L.take (k + 1)) = pre (L.take k) ++ ((if k = 0 then [] else [40]) ++ clause L[k].1 L[k].2) := by
  match L, h with
  | p :: r, h =>
    match k, h with
    | 0, _ => simp [pre]
    | m + 1, h =>
      have hm : m < r.length := by simpa using h
      rw [List.take_succ_cons, List.take_succ_cons, pre, pre, List.take_succ_eq_append_getElem hm, List.flatMap_append]
      simp

theorem wt_take_le (L : List Pair) (k : Nat) : wt (L.take k) ≤ wt L := by
  have : wt L = wt (L.take k) + wt (L.drop k) := by
    unfold wt
    rw [← List.sum_append, ← List.map_append, List.take_append_drop]
  omega

theorem wt_zip : ∀ xs ys : List ByteArray, wt (xs.zip ys) ≤ tot xs + tot ys + 8 * xs.length
  | [], _ => by simp [wt]
  | _ :: _, [] => by simp [wt]
  | x :: xs, y :: ys => by
    have ih := wt_zip xs ys
    simp only [wt, tot, List.zip_cons_cons, List.map_cons, List.sum_cons, List.length_cons] at ih ⊢
    omega

/-- The block of one conditional. -/
structure TernAt (w : World) (P : Nat) (c e : ByteArray) (v : Value) : Prop where
  lt : P < w.heap.size
  kind : w.cell? ⟨P, 11, none⟩ = some (.bool true)
  c : ∃ cb, cb < w.heap.size ∧ w.cell? ⟨P, 12, none⟩ = some (.iface 63 (.pointer (some ⟨cb, 0, none⟩))) ∧ w.cell? ⟨cb, 11, none⟩ = some (.string c)
  e : ∃ eb, eb < w.heap.size ∧ w.cell? ⟨P, 13, none⟩ = some (.iface 63 (.pointer (some ⟨eb, 0, none⟩))) ∧ w.cell? ⟨eb, 11, none⟩ = some (.string e)
  x : w.cell? ⟨P, 14, none⟩ = some v

def Tern (last : ByteArray) (w : World) : List Pair → Value → Prop
  | [], v => ∃ b, v = .iface 63 (.pointer (some ⟨b, 0, none⟩)) ∧ b < w.heap.size ∧ w.cell? ⟨b, 11, none⟩ = some (.string last)
  | p :: r, v => ∃ P v', v = .iface 84 (.pointer (some ⟨P, 0, none⟩)) ∧ TernAt w P p.1 p.2 v' ∧ Tern last w r v'

theorem TernAt.below {w w' : World} {n P : Nat} {c e : ByteArray} {v : Value} (h : TernAt w P c e v) (hb : Below n w w') (hn : w.heap.size ≤ n) : TernAt w' P c e v := by
  obtain ⟨cb, h1, h2, h3⟩ := h.c
  obtain ⟨eb, h4, h5, h6⟩ := h.e
  exact ⟨Nat.lt_of_lt_of_le h.lt hb.size, (hb.cell (p := ⟨P, 11, none⟩) (Nat.lt_of_lt_of_le h.lt hn)).trans h.kind,
    ⟨cb, Nat.lt_of_lt_of_le h1 hb.size, (hb.cell (p := ⟨P, 12, none⟩) (Nat.lt_of_lt_of_le h.lt hn)).trans h2, (hb.cell (p := ⟨cb, 11, none⟩) (Nat.lt_of_lt_of_le h1 hn)).trans h3⟩,
    ⟨eb, Nat.lt_of_lt_of_le h4 hb.size, (hb.cell (p := ⟨P, 13, none⟩) (Nat.lt_of_lt_of_le h.lt hn)).trans h5, (hb.cell (p := ⟨eb, 11, none⟩) (Nat.lt_of_lt_of_le h4 hn)).trans h6⟩,
    (hb.cell (p := ⟨P, 14, none⟩) (Nat.lt_of_lt_of_le h.lt hn)).trans h.x⟩

theorem Tern.below {last : ByteArray} {w w' : World} {n : Nat} (hb : Below n w w') (hn : w.heap.size ≤ n) : ∀ (L : List Pair) (v : Value), Tern last w L v → Tern last w' L v
  | [], _, ⟨b, h1, h2, h3⟩ => ⟨b, h1, Nat.lt_of_lt_of_le h2 hb.size, (hb.cell (p := ⟨b, 11, none⟩) (Nat.lt_of_lt_of_le h2 hn)).trans h3⟩
  | _ :: r, _, ⟨P, v', h1, h2, h3⟩ => ⟨P, v', h1, h2.below hb hn, Tern.below hb hn r v' h3⟩

theorem Tern.shape {last : ByteArray} {w : World} : ∀ (L : List Pair) (v : Value), Tern last w L v → ∃ T p, v = .iface T (.pointer (some ⟨p, 0, none⟩))
  | [], _, ⟨b, h1, _⟩ => ⟨63, b, h1⟩
  | _ :: _, _, ⟨P, _, h1, _⟩ => ⟨84, P, h1⟩

set_option maxRecDepth 10000 in
set_option maxHeartbeats 2000000 in
theorem tern_str (F : Interp) (last : ByteArray) (w : World) (hF : F.told.answers w.tape) :
    ∀ (L : List Pair) (c e : ByteArray) (P : Nat) (v : Value), TernAt w P c e v → Tern last w L v → last.size + wt ((c, e) :: L) ≤ 1099511627776 → Calls Tryf.prog 139 #[.pointer (some ⟨P, 0, none⟩)] w fun x w' => GaveStr (ternTxt last ((c, e) :: L)) w x w'
  | [], c, e, P, v, hP, hT, hlen => by
    obtain ⟨b, rfl, hb, hl⟩ := hT
    obtain ⟨cb, hcb, hc1, hc2⟩ := hP.c
    obtain ⟨eb, heb, he1, he2⟩ := hP.e
    have h11 := hP.kind
    have h14 := hP.x
    have hlen' : last.size + (c.size + e.size + 8) ≤ 1099511627776 := by simpa [wt] using hlen
    have htxt := told_text F (text_tern c.data.toList e.data.toList last.data.toList (by rw [size_list]; omega) (by rw [size_list]; omega) (by rw [size_list]; omega)) (by simp only [List.length_append, List.length_cons, List.length_nil, size_list]; omega)
    have HT : Hid (FmtStop.textOf (F.told "fmt.Sprintf" [[37, 115, 32, 63, 32, 37, 115, 32, 58, 32, 37, 115], Tryf.shape9, FmtStop.pack c.data.toList, Tryf.shape9, FmtStop.pack e.data.toList, Tryf.shape9, FmtStop.pack last.data.toList] 0) = bs (ternTxt last [(c, e)])) := htxt.trans (congrArg bs (by simp [ternTxt, clause]))
    have hF' := answers_open hF
    clear htxt hP hlen hlen'
    go_enter Tryf.func139, Tryf.ntmps139
    go_wp2_with fail
    refine (ident_str c cb _ hc2).mono ?_
    rintro x w' ⟨rfl, rfl⟩
    go_wp2_with fail
    refine (ident_str e eb _ he2).mono ?_
    rintro x w' ⟨rfl, rfl⟩
    go_wp2_with fail
    refine (ident_str last b _ hl).mono ?_
    rintro x w' ⟨rfl, rfl⟩
    go_wp2
    go_ret
    exact ⟨ret_str' HT.out, ((Below.refl _ w).alloc (Nat.le_refl _) _).drew⟩
  | (c2, e2) :: r, c, e, P, v, hP, hT, hlen => by
    obtain ⟨Q, v2, rfl, hQ, hr⟩ := hT
    have hsum : last.size + (c.size + e.size + 8 + wt ((c2, e2) :: r)) ≤ 1099511627776 := by simpa [wt] using hlen
    have ih := Lib.hid (tern_str F last w hF r c2 e2 Q v2 hQ hr (by omega))
    obtain ⟨cb, hcb, hc1, hc2⟩ := hP.c
    obtain ⟨eb, heb, he1, he2⟩ := hP.e
    have h11 := hP.kind
    have h14 := hP.x
    have htl := tern_len last ((c2, e2) :: r)
    obtain ⟨t, ht⟩ : ∃ t, t = ternTxt last ((c2, e2) :: r) := ⟨_, rfl⟩
    have htl2 : t.length ≤ 1099511627776 := by rw [ht]; omega
    obtain ⟨T, hT⟩ : ∃ T, T = [40] ++ t ++ [41] := ⟨_, rfl⟩
    have hTl : T.length ≤ 1099511627778 := by rw [hT]; simp only [List.length_append, List.length_cons, List.length_nil]; omega
    have HT1 : FmtStop.textOf (F.told "fmt.Sprintf" [[40, 37, 115, 41], Tryf.shape9, FmtStop.pack (bs t).data.toList] 0) = bs T := by
      rw [hT]
      exact told_text F (text_paren t (by omega)) (by simp only [List.length_append, List.length_cons, List.length_nil]; omega)
    have htxt := told_text F (text_tern c.data.toList e.data.toList T (by rw [size_list]; omega) (by rw [size_list]; omega) (by omega)) (by simp only [List.length_append, List.length_cons, List.length_nil, size_list]; omega)
    have HT : Hid (FmtStop.textOf (F.told "fmt.Sprintf" [[37, 115, 32, 63, 32, 37, 115, 32, 58, 32, 37, 115], Tryf.shape9, FmtStop.pack c.data.toList, Tryf.shape9, FmtStop.pack e.data.toList, Tryf.shape9, FmtStop.pack (bs T).data.toList] 0) = bs (ternTxt last ((c, e) :: (c2, e2) :: r))) := by
      refine htxt.trans (congrArg bs ?_)
      rw [hT, ht]
      simp [ternTxt, clause]
    rw [← ht] at ih
    clear htxt hP hlen hsum hQ hr htl ht hT
    go_enter Tryf.func139, Tryf.ntmps139
    go_wp2_with fail
    refine (ident_str c cb _ hc2).mono ?_
    rintro x w' ⟨rfl, rfl⟩
    go_wp2_with fail
    refine (ident_str e eb _ he2).mono ?_
    rintro x w' ⟨rfl, rfl⟩
    go_wp2_with fail
    refine ih.out.mono ?_
    rintro x w1 ⟨rfl, hb1⟩
    have hF1 := answers_open (show F.told.answers w1.tape by rw [hb1.tape]; exact hF)
    go_wp2
    go_ret
    exact ⟨ret_str' HT.out, (((hb1.alloc hb1.size _).drew).alloc (by have := hb1.size; simp; omega) _).drew⟩

end Go.Proofs.YtjpkoddghagdgaaFmtR
