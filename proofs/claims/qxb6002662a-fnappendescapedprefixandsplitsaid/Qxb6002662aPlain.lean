/-
  The plain laws of escaping: lists of bytes alone, no Go in sight.
-/
namespace Go.Proofs.Qxb6002662a.Plain

/-- One byte as a line of the listing writes it. -/
def escB (c : UInt8) : List UInt8 := if c = 92 then [92, 92] else if c = 10 then [92, 110] else [c]

/-- A text as a line of the listing writes it. -/
def esc (l : List UInt8) : List UInt8 := l.flatMap escB

/-- Is the byte one that is escaped? -/
def spec (c : UInt8) : Bool := c == 92 || c == 10

/-- How many bytes of the text are escaped. -/
def specials (l : List UInt8) : Nat := (l.filter spec).length

theorem esc_nil : esc [] = [] := rfl

theorem esc_append (x y : List UInt8) : esc (x ++ y) = esc x ++ esc y := by simp [esc]

theorem esc_snoc (x : List UInt8) (c : UInt8) : esc (x ++ [c]) = esc x ++ escB c := by simp [esc]

theorem escB_plain {c : UInt8} (h1 : c ≠ 92) (h2 : c ≠ 10) : escB c = [c] := by simp [escB, h1, h2]

theorem esc_plain : ∀ (l : List UInt8), (∀ c ∈ l, c ≠ 92 ∧ c ≠ 10) → esc l = l
  | [], _ => rfl
  | c :: t, h => by
    have ht := esc_plain t (fun d hd => h d (by simp [hd]))
    have hc := h c (by simp)
    have e : esc (c :: t) = escB c ++ esc t := by simp [esc]
    rw [e, ht, escB_plain hc.1 hc.2]
    rfl

theorem escB_length (c : UInt8) : (escB c).length = 1 + if spec c then 1 else 0 := by
  by_cases h1 : c = 92
  · subst h1; simp [escB, spec]
  · by_cases h2 : c = 10
    · subst h2; simp [escB, spec]
    · simp [escB, spec, h1, h2]

theorem specials_snoc (l : List UInt8) (c : UInt8) : specials (l ++ [c]) = specials l + if spec c then 1 else 0 := by
  by_cases h : spec c <;> simp [specials, h]

theorem specials_le (l : List UInt8) : specials l ≤ l.length := List.length_filter_le _ _

theorem esc_length : ∀ (l : List UInt8), (esc l).length = l.length + specials l
  | [] => rfl
  | c :: t => by
    have ht := esc_length t
    have e : esc (c :: t) = escB c ++ esc t := by simp [esc]
    have s : specials (c :: t) = (if spec c then 1 else 0) + specials t := by
      by_cases h : spec c <;> simp [specials, h]; omega
    rw [e, List.length_append, escB_length, ht, s, List.length_cons]
    omega

theorem esc_length_le (l : List UInt8) : (esc l).length ≤ 2 * l.length := by
  have h1 := esc_length l
  have h2 := specials_le l
  omega

theorem le_esc_length (l : List UInt8) : l.length ≤ (esc l).length := by
  have h1 := esc_length l
  omega

theorem escB_no_newline (c : UInt8) : ∀ d ∈ escB c, d ≠ 10 := by
  intro d hd
  by_cases h1 : c = 92
  · subst h1; simp [escB] at hd; subst hd; decide
  · by_cases h2 : c = 10
    · subst h2; simp [escB] at hd; rcases hd with rfl | rfl <;> decide
    · rw [escB_plain h1 h2] at hd; simp at hd; subst hd; exact h2

theorem esc_no_newline (l : List UInt8) : ∀ d ∈ esc l, d ≠ 10 := by
  intro d hd
  simp only [esc, List.mem_flatMap] at hd
  obtain ⟨c, _, hd⟩ := hd
  exact escB_no_newline c d hd

/-- The first byte of what lies at the place of byte k, in the escaped line. -/
theorem take_succ_eq (l : List UInt8) (k : Nat) (h : k < l.length) : l.take (k + 1) = l.take k ++ [l[k]] :=
  List.take_succ_eq_append_getElem h

theorem esc_take_succ (l : List UInt8) (k : Nat) (h : k < l.length) : esc (l.take (k + 1)) = esc (l.take k) ++ escB l[k] := by
  rw [take_succ_eq l k h, esc_snoc]

theorem esc_split (l : List UInt8) (k : Nat) (h : k < l.length) : esc l = esc (l.take k) ++ (escB l[k] ++ esc (l.drop (k + 1))) := by
  rw [← List.append_assoc, ← esc_take_succ l k h, ← esc_append, List.take_append_drop]

theorem esc_len_split (l : List UInt8) (k : Nat) (h : k < l.length) :
    (esc (l.take (k + 1))).length = (esc (l.take k)).length + (escB l[k]).length := by
  rw [esc_take_succ l k h, List.length_append]

theorem esc_take_le (l : List UInt8) (k : Nat) : (esc (l.take k)).length ≤ (esc l).length := by
  have e : esc l = esc (l.take k) ++ esc (l.drop k) := by rw [← esc_append, List.take_append_drop]
  rw [e, List.length_append]
  omega

/-- Byte j of the escape of byte k lies in the line at its place. -/
theorem esc_at (l : List UInt8) (k j : Nat) (h : k < l.length) (hj : j < (escB l[k]).length) :
    (esc l)[(esc (l.take k)).length + j]? = some (escB l[k])[j] := by
  rw [esc_split l k h, List.getElem?_append_right (by omega), List.getElem?_append_left (by omega)]
  simp [hj]

end Go.Proofs.Qxb6002662a.Plain
