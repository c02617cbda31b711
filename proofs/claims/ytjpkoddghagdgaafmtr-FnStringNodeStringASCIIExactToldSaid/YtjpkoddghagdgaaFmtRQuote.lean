/-
  PLAIN LAWS of 'FmtText.quote false' (fmt's %q without flags), no program in sight.
  (1) of an ASCII text it is the hand model 'zq'. (2) of any text it is one quoted token.
-/
import GoSem.Extern.FmtText
import Derived.Stop.FmtQuoteTie
namespace Go.Proofs.YtjpkoddghagdgaaFmtR.QuotePlain
open Go.Extern

abbrev Bytes := List UInt8

/-- The hand model's answer at one byte. -/
def q1 (c : UInt8) : Bytes :=
  if c = 34 ∨ c = 92 then [92, c]
  else if 32 ≤ c.toNat ∧ c.toNat < 127 then [c]
  else if c = 7 then [92, 97] else if c = 8 then [92, 98] else if c = 9 then [92, 116] else if c = 10 then [92, 110]
  else if c = 11 then [92, 118] else if c = 12 then [92, 102] else if c = 13 then [92, 114]
  else [92, 120, FmtText.digit false (c.toNat / 16), FmtText.digit false (c.toNat % 16)]

def zq (b : Bytes) : Bytes := 34 :: (b.flatMap q1 ++ [34])

theorem esc_ascii : ∀ n : Fin 128, FmtText.escRune 34 false n.val = q1 (UInt8.ofNat n.val) := by decide +kernel

theorem arr_size (b : Bytes) : (FmtText.arr b).size = b.length := by simp [FmtText.arr, ByteArray.size]

theorem arr_get (b : Bytes) (i : Nat) (h : i < b.length) : (FmtText.arr b).get! i = b[i] := by
  have : (FmtText.arr b).get! i = (FmtText.arr b).data[i]! := rfl
  rw [this]; simp [FmtText.arr, getElem!_pos, h]

theorem decode_ascii (b : Bytes) (i : Nat) (h : i < b.length) (ha : b[i].toNat < 128) : Utf8.decode (FmtText.arr b) i = (b[i].toNat, 1) := by
  unfold Utf8.decode
  simp only [Nat.add_zero, arr_get b i h, if_pos ha]

theorem quoteFrom_ascii (b : Bytes) (ha : ∀ c ∈ b, c.toNat < 128) : ∀ (fuel pos : Nat), b.length ≤ pos + fuel → FmtText.quoteFrom 34 false (FmtText.arr b) fuel pos = (b.drop pos).flatMap q1
  | 0, pos, h => by rw [List.drop_eq_nil_of_le (by omega)]; rfl
  | fuel + 1, pos, h => by
    unfold FmtText.quoteFrom
    rw [arr_size]
    by_cases hp : pos < b.length
    · have hc := ha b[pos] (List.getElem_mem hp)
      rw [if_pos hp, decode_ascii b pos hp hc, quoteFrom_ascii b ha fuel (pos + 1) (by omega), List.drop_eq_getElem_cons hp, List.flatMap_cons]
      have hn : (b[pos].toNat == 65533) = false := by simp; omega
      simp only [hn, Bool.and_false, Bool.false_eq_true, if_false]
      have := esc_ascii ⟨b[pos].toNat, hc⟩
      simp only [UInt8.ofNat_toNat] at this
      rw [this]
    · rw [if_neg hp, List.drop_eq_nil_of_le (by omega)]; rfl

/-- (1) -/
theorem quote_ascii (b : Bytes) (ha : ∀ c ∈ b, c.toNat < 128) : FmtText.quote false b = zq b := by
  unfold FmtText.quote zq
  rw [quoteFrom_ascii b ha b.length 0 (by omega)]; rfl

/-- The reader of one quoted token's inside. -/
def scan : Bytes → Bool
  | [] => true
  | 92 :: [] => false
  | 92 :: _ :: r => scan r
  | c :: r => if c = 34 then false else scan r

/-- No byte of it is a control byte or DEL. -/
def clean (b : Bytes) : Prop := ∀ c ∈ b, 32 ≤ c.toNat ∧ c.toNat ≠ 127

/-- A piece that the reader passes whole, whatever follows. -/
structure Tok (t : Bytes) : Prop where
  clean : clean t
  pass : ∀ r, scan (t ++ r) = scan r

theorem scan_plain (t : Bytes) (h : ∀ c ∈ t, c ≠ 34 ∧ c ≠ 92) : ∀ r, scan (t ++ r) = scan r := by
  induction t with
  | nil => intro r; rfl
  | cons c t ih =>
    intro r
    have hc := h c (by simp)
    have ht := ih (fun x hx => h x (by simp [hx])) r
    rw [List.cons_append, ← ht]
    generalize t ++ r = u
    rw [scan.eq_def]
    split
    · contradiction
    · rename_i heq; exact absurd (List.cons.inj heq).1 hc.2
    · rename_i heq; exact absurd (List.cons.inj heq).1 hc.2
    · rename_i heq
      obtain ⟨rfl, rfl⟩ := List.cons.inj heq
      rw [if_neg hc.1]

theorem tok_plain (t : Bytes) (h : ∀ c ∈ t, 32 ≤ c.toNat ∧ c.toNat ≠ 127 ∧ c.toNat ≠ 34 ∧ c.toNat ≠ 92) : Tok t :=
  ⟨fun c hc => ⟨(h c hc).1, (h c hc).2.1⟩, scan_plain t fun c hc => ⟨fun e => (h c hc).2.2.1 (by rw [e]; rfl), fun e => (h c hc).2.2.2 (by rw [e]; rfl)⟩⟩

theorem tok_esc (x : UInt8) (t : Bytes) (hx : 32 ≤ x.toNat ∧ x.toNat ≠ 127) (h : ∀ c ∈ t, 32 ≤ c.toNat ∧ c.toNat ≠ 127 ∧ c.toNat ≠ 34 ∧ c.toNat ≠ 92) : Tok (92 :: x :: t) := by
  have ht := tok_plain t h
  refine ⟨?_, ?_⟩
  · intro c hc
    rcases List.mem_cons.1 hc with rfl | hc
    · decide
    · rcases List.mem_cons.1 hc with rfl | hc
      · exact hx
      · exact ht.clean c hc
  · intro r
    show scan (92 :: x :: (t ++ r)) = _
    rw [← ht.pass r]
    rfl

theorem digit_ok (d : Nat) (h : d < 16) : 32 ≤ (FmtText.digit false d).toNat ∧ (FmtText.digit false d).toNat ≠ 127 ∧ (FmtText.digit false d).toNat ≠ 34 ∧ (FmtText.digit false d).toNat ≠ 92 := by
  have : ∀ d : Fin 16, 32 ≤ (FmtText.digit false d.val).toNat ∧ (FmtText.digit false d.val).toNat ≠ 127 ∧ (FmtText.digit false d.val).toNat ≠ 34 ∧ (FmtText.digit false d.val).toNat ≠ 92 := by decide +kernel
  exact this ⟨d, h⟩

theorem hex_ok (r : Nat) : ∀ n, ∀ c ∈ FmtText.hexDigits r n, 32 ≤ c.toNat ∧ c.toNat ≠ 127 ∧ c.toNat ≠ 34 ∧ c.toNat ≠ 92
  | 0 => fun c h => by cases h
  | n + 1 => fun c h => by
    rcases List.mem_cons.1 h with rfl | h
    · exact digit_ok _ (Nat.mod_lt _ (by decide))
    · exact hex_ok r n c h

theorem hex_len (r : Nat) : ∀ n, (FmtText.hexDigits r n).length = n
  | 0 => rfl
  | n + 1 => by simp [FmtText.hexDigits, hex_len r n]

/-- How many bytes a rune takes. -/
def width (r : Nat) : Nat := if r < 128 then 1 else if r < 2048 then 2 else if r < 65536 then 3 else 4

theorem byte_hi (n : Nat) (h1 : 128 ≤ n) (h2 : n < 256) : 32 ≤ (UInt8.ofNat n).toNat ∧ (UInt8.ofNat n).toNat ≠ 127 ∧ (UInt8.ofNat n).toNat ≠ 34 ∧ (UInt8.ofNat n).toNat ≠ 92 := by
  have : (UInt8.ofNat n).toNat = n := by rw [UInt8.toNat_ofNat']; omega
  omega

def okP (c : UInt8) : Bool := decide (32 ≤ c.toNat ∧ c.toNat ≠ 127 ∧ c.toNat ≠ 34 ∧ c.toNat ≠ 92)
def okE (c : UInt8) : Bool := decide (32 ≤ c.toNat ∧ c.toNat ≠ 127)
def tokB : Bytes → Bool
  | 92 :: x :: t => okE x && t.all okP
  | t => t.all okP

theorem tok_of (t : Bytes) (h : tokB t = true) : Tok t := by
  unfold tokB at h
  split at h
  · simp only [Bool.and_eq_true, List.all_eq_true, okE, okP, decide_eq_true_eq] at h
    exact tok_esc _ _ h.1 h.2
  · simp only [List.all_eq_true, okP, decide_eq_true_eq] at h
    exact tok_plain _ h

theorem q1_tok : ∀ n : Fin 128, tokB (q1 (UInt8.ofNat n.val)) = true ∧ 1 ≤ (q1 (UInt8.ofNat n.val)).length := by decide +kernel

/-- What '%q' writes for one valid rune: a token, no shorter than the rune. -/
theorem esc_tok (r : Nat) (hv : r < 55296 ∨ (57344 ≤ r ∧ r ≤ 1114111)) : Tok (FmtText.escRune 34 false r) ∧ width r ≤ (FmtText.escRune 34 false r).length := by
  by_cases h128 : r < 128
  · have e := esc_ascii ⟨r, h128⟩
    simp only at e
    rw [e]
    have hq := q1_tok ⟨r, h128⟩
    have hw : width r = 1 := by unfold width; rw [if_pos h128]
    rw [hw]
    exact ⟨tok_of _ hq.1, hq.2⟩
  · unfold FmtText.escRune
    have n34 : (r == 34 || r == 92) = false := by simp; omega
    simp only [n34, Bool.false_eq_true, if_false]
    by_cases hp : FmtText.isPrint r = true
    · rw [if_pos hp]
      by_cases h2 : r < 2048
      · rw [FmtText.enc2 r h128 h2]
        refine ⟨tok_plain _ (fun c hc => ?_), by simp [width, h128, h2]⟩
        simp only [List.mem_cons, List.not_mem_nil, or_false] at hc
        rcases hc with rfl | rfl
        · exact byte_hi _ (by omega) (by omega)
        · exact byte_hi _ (by omega) (by omega)
      · by_cases h3 : r < 65536
        · rw [FmtText.enc3 r h2 h3 (by omega)]
          refine ⟨tok_plain _ (fun c hc => ?_), by simp [width, h128, h2, h3]⟩
          simp only [List.mem_cons, List.not_mem_nil, or_false] at hc
          rcases hc with rfl | rfl | rfl
          · exact byte_hi _ (by omega) (by omega)
          · exact byte_hi _ (by omega) (by omega)
          · exact byte_hi _ (by omega) (by omega)
        · rw [FmtText.enc4 r h3 (by omega)]
          refine ⟨tok_plain _ (fun c hc => ?_), by simp [width, h128, h2, h3]⟩
          simp only [List.mem_cons, List.not_mem_nil, or_false] at hc
          rcases hc with rfl | rfl | rfl | rfl
          · exact byte_hi _ (by omega) (by omega)
          · exact byte_hi _ (by omega) (by omega)
          · exact byte_hi _ (by omega) (by omega)
          · exact byte_hi _ (by omega) (by omega)
    · rw [if_neg hp]
      have n7 : (r == 7) = false := by simp; omega
      have n8 : (r == 8) = false := by simp; omega
      have n9 : (r == 9) = false := by simp; omega
      have n10 : (r == 10) = false := by simp; omega
      have n11 : (r == 11) = false := by simp; omega
      have n12 : (r == 12) = false := by simp; omega
      have n13 : (r == 13) = false := by simp; omega
      simp only [n7, n8, n9, n10, n11, n12, n13, Bool.false_eq_true, if_false]
      have hw4 : width r ≤ 4 := by unfold width; split <;> (try split) <;> (try split) <;> omega
      split
      · refine ⟨tok_esc 120 _ (by decide) (hex_ok _ _), ?_⟩
        simp only [List.length_cons, hex_len]; omega
      · split
        · refine ⟨tok_esc 117 _ (by decide) (hex_ok _ _), ?_⟩
          simp only [List.length_cons, hex_len]; omega
        · split
          · refine ⟨tok_esc 117 _ (by decide) (hex_ok _ _), ?_⟩
            simp only [List.length_cons, hex_len]; omega
          · refine ⟨tok_esc 85 _ (by decide) (hex_ok _ _), ?_⟩
            simp only [List.length_cons, hex_len]; omega

theorem valid_nat {r : Nat} (h : Utf8.valid (r : Int) = true) : r < 55296 ∨ (57344 ≤ r ∧ r ≤ 1114111) := by
  simp [Utf8.valid] at h; omega

/-- What the decoder gives: a bad byte, or a valid rune that takes as many bytes as were read. -/
theorem decode_ok (s : ByteArray) (i : Nat) : (Utf8.decode s i = (65533, 1)) ∨ (((Utf8.decode s i).1 < 55296 ∨ (57344 ≤ (Utf8.decode s i).1 ∧ (Utf8.decode s i).1 ≤ 1114111)) ∧ (Utf8.decode s i).2 = width (Utf8.decode s i).1) := by
  unfold Utf8.decode
  simp only [Utf8.runeError]
  have m1 := Nat.mod_lt (s.get! (i + 1)).toNat (show 0 < 64 by decide)
  have m2 := Nat.mod_lt (s.get! (i + 2)).toNat (show 0 < 64 by decide)
  have m3 := Nat.mod_lt (s.get! (i + 3)).toNat (show 0 < 64 by decide)
  split
  · right; rename_i h; exact ⟨by omega, by unfold width; rw [if_pos h]⟩
  · split
    · have mm := Nat.mod_lt (s.get! (i + 0)).toNat (show 0 < 32 by decide)
      split
      · right; rename_i h; refine ⟨by omega, ?_⟩
        have a1 : ¬ (s.get! (i + 0)).toNat % 32 * 64 + (s.get! (i + 1)).toNat % 64 < 128 := by omega
        have a2 : (s.get! (i + 0)).toNat % 32 * 64 + (s.get! (i + 1)).toNat % 64 < 2048 := by omega
        simp only [width, if_neg a1, if_pos a2]
      · left; rfl
    · split
      · have mm := Nat.mod_lt (s.get! (i + 0)).toNat (show 0 < 16 by decide)
        split
        · right; rename_i h
          simp only [Bool.and_eq_true, decide_eq_true_eq] at h
          refine ⟨valid_nat h.2, ?_⟩
          have a1 : ¬ (s.get! (i + 0)).toNat % 16 * 4096 + (s.get! (i + 1)).toNat % 64 * 64 + (s.get! (i + 2)).toNat % 64 < 128 := by omega
          have a2 : ¬ (s.get! (i + 0)).toNat % 16 * 4096 + (s.get! (i + 1)).toNat % 64 * 64 + (s.get! (i + 2)).toNat % 64 < 2048 := by omega
          have a3 : (s.get! (i + 0)).toNat % 16 * 4096 + (s.get! (i + 1)).toNat % 64 * 64 + (s.get! (i + 2)).toNat % 64 < 65536 := by omega
          simp only [width, if_neg a1, if_neg a2, if_pos a3]
        · left; rfl
      · split
        · split
          · right; rename_i h
            simp only [Bool.and_eq_true, decide_eq_true_eq] at h
            refine ⟨valid_nat h.2, ?_⟩
            have a1 : ¬ (s.get! (i + 0)).toNat % 8 * 262144 + (s.get! (i + 1)).toNat % 64 * 4096 + (s.get! (i + 2)).toNat % 64 * 64 + (s.get! (i + 3)).toNat % 64 < 128 := by omega
            have a2 : ¬ (s.get! (i + 0)).toNat % 8 * 262144 + (s.get! (i + 1)).toNat % 64 * 4096 + (s.get! (i + 2)).toNat % 64 * 64 + (s.get! (i + 3)).toNat % 64 < 2048 := by omega
            have a3 : ¬ (s.get! (i + 0)).toNat % 8 * 262144 + (s.get! (i + 1)).toNat % 64 * 4096 + (s.get! (i + 2)).toNat % 64 * 64 + (s.get! (i + 3)).toNat % 64 < 65536 := by omega
            simp only [width, if_neg a1, if_neg a2, if_neg a3]
          · left; rfl
        · left; rfl

theorem width_pos (r : Nat) : 1 ≤ width r := by unfold width; split <;> (try split) <;> (try split) <;> omega

/-- The inside of a quoted text. -/
structure Inside (b : Bytes) (n : Nat) : Prop where
  clean : clean b
  scan : scan b = true
  len : n ≤ b.length

theorem inside_from (s : ByteArray) : ∀ (fuel pos : Nat), s.size ≤ pos + fuel → Inside (FmtText.quoteFrom 34 false s fuel pos) (s.size - pos)
  | 0, pos, h => ⟨(fun c hc => nomatch hc), rfl, by omega⟩
  | fuel + 1, pos, h => by
    unfold FmtText.quoteFrom
    by_cases hp : pos < s.size
    · rw [if_pos hp]
      rcases decode_ok s pos with hd | ⟨hv, hw⟩
      · have ih := inside_from s fuel (pos + 1) (by omega)
        rw [hd]
        simp only [beq_self_eq_true, Bool.and_self, if_true]
        have ht := tok_esc 120 _ (by decide) (hex_ok (s.get! pos).toNat 2)
        have hl := hex_len (s.get! pos).toNat 2
        refine ⟨fun c hc => ?_, by rw [ht.pass]; exact ih.scan, ?_⟩
        · rcases List.mem_append.1 hc with h | h
          · exact ht.clean c h
          · exact ih.clean c h
        · have := ih.len
          simp only [List.length_append, List.length_cons, hl]; omega
      · have hw1 := width_pos (Utf8.decode s pos).1
        have ih := inside_from s fuel (pos + (Utf8.decode s pos).2) (by omega)
        have ht := esc_tok (Utf8.decode s pos).1 hv
        have he : (if ((Utf8.decode s pos).2 == 1 && (Utf8.decode s pos).1 == 65533) = true then 92 :: 120 :: FmtText.hexDigits (s.get! pos).toNat 2 else FmtText.escRune 34 false (Utf8.decode s pos).1) = FmtText.escRune 34 false (Utf8.decode s pos).1 := by
          apply if_neg
          intro hb
          simp only [Bool.and_eq_true, beq_iff_eq] at hb
          rw [hb.2] at hw
          rw [hb.1] at hw
          exact absurd hw (by decide)
        rw [he]
        refine ⟨fun c hc => ?_, by rw [ht.1.pass]; exact ih.scan, ?_⟩
        · rcases List.mem_append.1 hc with h | h
          · exact ht.1.clean c h
          · exact ih.clean c h
        · have := ih.len
          have := ht.2
          simp only [List.length_append]; omega
    · rw [if_neg hp]
      exact ⟨(fun c hc => nomatch hc), rfl, by omega⟩

/-- (2) -/
theorem quote_token (b : Bytes) : ∃ m, FmtText.quote false b = 34 :: (m ++ [34]) ∧ Inside m b.length := by
  refine ⟨_, rfl, ?_⟩
  have := inside_from (FmtText.arr b) b.length 0 (by rw [arr_size]; omega)
  rw [arr_size] at this
  simpa using this

end Go.Proofs.YtjpkoddghagdgaaFmtR.QuotePlain
