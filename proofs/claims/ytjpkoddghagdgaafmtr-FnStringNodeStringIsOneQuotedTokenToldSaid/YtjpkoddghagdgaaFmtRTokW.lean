/-
  FnStringNodeStringIsOneQuotedToken: the walk. Conditions: none but those in each statement.
-/
import Derived.Test.YtjpkoddghagdgaaFmtRQuote
import Derived.Test.YtjpkoddghagdgaaFmtRStr
import Derived.LoopTactic
namespace Go.Proofs.YtjpkoddghagdgaaFmtR
open Go.RowKit Go.Extern.Stop Go.Stop Go.Extern

theorem scan_at (m : List UInt8) (j : Nat) (hj : j < m.length) (h : QuotePlain.scan (m.drop j) = true) :
    (m[j] = 92 → j + 1 < m.length ∧ QuotePlain.scan (m.drop (j + 2)) = true) ∧ (m[j] ≠ 92 → m[j] ≠ 34 ∧ QuotePlain.scan (m.drop (j + 1)) = true) := by
  rw [List.drop_eq_getElem_cons hj] at h
  constructor
  · intro e
    rw [e] at h
    by_cases hl : j + 1 < m.length
    · rw [List.drop_eq_getElem_cons hl] at h
      exact ⟨hl, h⟩
    · rw [List.drop_eq_nil_of_le (by omega)] at h
      exact absurd h (by decide)
  · intro e
    rw [QuotePlain.scan.eq_def] at h
    split at h
    · contradiction
    · rename_i heq; exact absurd (List.cons.inj heq).1 e
    · rename_i heq; exact absurd (List.cons.inj heq).1 e
    · rename_i heq
      obtain ⟨e1, e2⟩ := List.cons.inj heq
      rw [← e1, ← e2] at h
      split at h
      · exact absurd h (by decide)
      · rename_i hne; exact ⟨hne, h⟩

/-- What the walk wants of the quoted text g. -/
structure TokOf (g s : ByteArray) : Prop where
  len : s.size + 2 ≤ g.size
  small : g.size ≤ 11534340
  first : ∀ h : 0 < g.size, g[0] = 34
  last : ∀ h : g.size - 1 < g.size, g[g.size - 1] = 34
  clean : ∀ k (h : k < g.size), 32 ≤ g[k].toNat ∧ g[k].toNat ≠ 127

/-- The reader's state at index k of g. -/
def At (g : ByteArray) (k : Nat) : Prop := 1 ≤ k ∧ k ≤ g.size - 1 ∧ ∃ m : List UInt8, g.data.toList = 34 :: (m ++ [34]) ∧ QuotePlain.scan (m.drop (k - 1)) = true

theorem At.step {g : ByteArray} {k : Nat} (h : At g k) (hk : k < g.size) (hlt : k < g.size - 1) : (g[k] = 92 → k + 1 < g.size - 1 ∧ At g (k + 2)) ∧ (g[k] ≠ 92 → g[k] ≠ 34 ∧ At g (k + 1)) := by
  obtain ⟨h1, h2, m, hm, hs⟩ := h
  have hl : g.size = m.length + 2 := by
    have := congrArg List.length hm
    rw [size_list] at this
    simpa using this
  have hj : k - 1 < m.length := by omega
  have hg : g[k] = m[k - 1] := by
    have e : g[k] = g.data.toList[k]'(by rw [size_list]; omega) := rfl
    rw [e]
    obtain ⟨j, rfl⟩ : ∃ j, k = j + 1 := ⟨k - 1, by omega⟩
    simp only [hm, List.getElem_cons_succ]
    rw [List.getElem_append_left (by simpa using hj)]
    rfl
  have hs' := scan_at m (k - 1) hj hs
  rw [hg]
  refine ⟨fun e => ?_, fun e => ?_⟩
  · obtain ⟨a, b⟩ := hs'.1 e
    refine ⟨by omega, by omega, by omega, m, hm, ?_⟩
    rw [show k + 2 - 1 = k - 1 + 2 by omega]; exact b
  · obtain ⟨a, b⟩ := hs'.2 e
    refine ⟨a, by omega, by omega, m, hm, ?_⟩
    rw [show k + 1 - 1 = k - 1 + 1 by omega]; exact b

theorem tok_of_quote (s : ByteArray) (hs : s.size ≤ 1048576) : TokOf (bs (FmtText.quote false s.data.toList)) s ∧ At (bs (FmtText.quote false s.data.toList)) 1 := by
  obtain ⟨m, hm, hi⟩ := QuotePlain.quote_token s.data.toList
  have hq := FmtText.quote_length_le s.data.toList
  have hlen := hi.len
  rw [size_list] at hlen hq
  have hsz : (bs (FmtText.quote false s.data.toList)).size = m.length + 2 := by rw [bs_size, hm]; simp
  have hq2 : m.length + 2 ≤ 10 * s.size + 2 := by rw [hm] at hq; simpa using hq
  have hget : ∀ k (h : k < (bs (FmtText.quote false s.data.toList)).size), (bs (FmtText.quote false s.data.toList))[k] = (34 :: (m ++ [34]))[k]'(by rw [hsz] at h; simpa using h) := by
    intro k h
    have e : (bs (FmtText.quote false s.data.toList))[k] = (FmtText.quote false s.data.toList)[k]'(by rw [bs_size] at h; exact h) := rfl
    rw [e]; simp only [hm]
  refine ⟨⟨by omega, by omega, fun h => by rw [hget]; rfl, fun h => ?_, fun k h => ?_⟩, ⟨by omega, by omega, m, hm, hi.scan⟩⟩
  · rw [hget]
    simp only [hsz]
    simp
  · rw [hget]
    have hmem : (34 :: (m ++ [34]))[k]'(by rw [hsz] at h; simpa using h) ∈ (34 :: (m ++ [34])) := List.getElem_mem _
    generalize (34 :: (m ++ [34]))[k]'(by rw [hsz] at h; simpa using h) = c at hmem
    rcases List.mem_cons.1 hmem with rfl | hmem
    · decide
    · rcases List.mem_append.1 hmem with hc | hc
      · exact hi.clean c hc
      · rw [List.mem_singleton] at hc; subst hc; decide

theorem string_str_g (F : Interp) (nm g : ByteArray) (hg : bs (FmtText.quote false nm.data.toList) = g) (b : Nat) (w : World) (hF : F.told.answers w.tape) (hl : nm.size < 2 ^ 58) (hc : w.cell? ⟨b, 11, none⟩ = some (.string nm)) :
    Calls Tryf.prog 17 #[.pointer (some ⟨b, 0, none⟩)] w fun e w' => e = .returned (.string g) ∧ Below w.heap.size w w' := by
  rw [← hg]; exact string_str F nm b w hF hl hc

set_option maxHeartbeats 800000 in
theorem p13_yes (F : Interp) (s g : ByteArray) (w : World) (hF : F.told.answers w.tape) (hs : s.size ≤ 1048576) (hg : bs (FmtText.quote false s.data.toList) = g) (T : TokOf g s) (A : At g 1) :
    Calls Tryf.prog 10 #[.string s] w fun e w' => e = .returned (.bool true) ∧ Below w.heap.size w w' := by
  have HG := Lib.hid hg
  clear hg
  have hlen := T.len
  have hsm := T.small
  have hpos : 0 < g.size := by omega
  have hl1 : g.size - 1 < g.size := by omega
  have e0 : (((g[0]'hpos).toNat : Int) != 34) = false := by rw [T.first hpos]; rfl
  have e1 : (((g[g.size - 1]'hl1).toNat : Int) != 34) = false := by rw [T.last hl1]; rfl
  go_enter Tryf.func10, Tryf.ntmps10
  go_wp2_with fail
  refine (zz32_yes _ _ hs).mono ?_
  rintro e w' ⟨rfl, rfl⟩
  go_wp2_with fail
  refine (string_str_g F s g HG.out _ _ (by exact hF) (by omega) (by simp [go_sem])).mono ?_
  rintro e w1 ⟨rfl, hb1⟩
  have HB := Lib.hid hb1
  clear hb1
  go_wp2_with fail
  go_loop [4] (fun i => ∃ k : Nat, k ≤ g.size ∧ i = .int .i64 k) (fun i => g.size - (intOf i).toNat)
  case atStart => exact ⟨0, Nat.zero_le _, rfl⟩
  case round =>
    obtain ⟨k, hk, rfl⟩ := hrel
    by_cases hlt : k < g.size
    · have hc := T.clean k hlt
      have c1 : ¬ ((g[k]'hlt).toNat : Int) < 32 := by omega
      have c2 : (((g[k]'hlt).toNat : Int) == 127) = false := by simp; omega
      go_wp2
      go_round
      case rel => exact ⟨k + 1, by omega, by go_num⟩
      case measure => simp [intOf]; omega
    · go_wp2_with fail
      go_loop [6] (fun i => ∃ j : Nat, At g j ∧ i = .int .i64 j) (fun i => g.size - (intOf i).toNat)
      case atStart => exact ⟨1, A, rfl⟩
      case round =>
        obtain ⟨j, hA, rfl⟩ := hrel
        have hj1 := hA.1
        have hj2 := hA.2.1
        by_cases hj : j < g.size - 1
        · have hjs : j < g.size := by omega
          have st := hA.step hjs hj
          by_cases c92 : g[j]'hjs = 92
          · have hn := st.1 c92
            have t1 : (((g[j]'hjs).toNat : Int) == 92) = true := by rw [c92]; rfl
            have hn1 := hn.1
            have HN := Lib.hid hn.2
            clear st c92 hn hA
            go_wp2
            go_round
            case rel => exact ⟨j + 2, HN.out, by go_num⟩
            case measure => simp [intOf]; omega
          · have hn := st.2 c92
            have t1 : (((g[j]'hjs).toNat : Int) == 92) = false := by
              simp only [beq_eq_false_iff_ne, ne_eq]
              intro h
              exact c92 (UInt8.toNat.inj (by rw [show (92 : UInt8).toNat = 92 from rfl]; omega))
            have t2 : (((g[j]'hjs).toNat : Int) == 34) = false := by
              simp only [beq_eq_false_iff_ne, ne_eq]
              intro h
              exact hn.1 (UInt8.toNat.inj (by rw [show (34 : UInt8).toNat = 34 from rfl]; omega))
            have HN := Lib.hid hn.2
            clear st c92 hn hA
            go_wp2
            go_round
            case rel => exact ⟨j + 1, HN.out, by go_num⟩
            case measure => simp [intOf]; omega
        · clear hA
          go_wp2
          go_ret
          exact ⟨rfl, ((Below.refl _ w).alloc (Nat.le_refl _) _).trans (HB.out.mono (by simp))⟩

set_option maxHeartbeats 400000 in
theorem p13_no (s : ByteArray) (w : World) (h : 1048576 < s.size) (hs : s.size ≤ 140737488355328) :
    Calls Tryf.prog 10 #[.string s] w fun e w' => e = .returned (.bool true) ∧ Below w.heap.size w w' := by
  go_enter Tryf.func10, Tryf.ntmps10
  go_wp2_with fail
  refine (zz32_no _ _ h hs).mono ?_
  rintro e w' ⟨rfl, rfl⟩
  go_wp2
  go_ret
  exact ⟨rfl, Below.refl _ _⟩

end Go.Proofs.YtjpkoddghagdgaaFmtR
