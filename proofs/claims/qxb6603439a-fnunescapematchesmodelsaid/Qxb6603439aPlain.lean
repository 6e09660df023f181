/-
  PLAIN LAWS: no Go text here: what unescape computes ('unesc') and what is true of it.
-/
import Derived.Lib.IndexMore
namespace Go.Proofs.Qxb6603439a
namespace Ue

/-- the byte that a letter behind a backslash stands for -/
def ctrl (d : UInt8) : UInt8 :=
  if d = 97 then 7 else if d = 98 then 8 else if d = 102 then 12 else if d = 110 then 10 else if d = 114 then 13 else if d = 116 then 9 else if d = 118 then 11 else d

def unesc (esc : UInt8 → Bool) : List UInt8 → List UInt8
  | [] => []
  | [c] => [c]
  | c :: d :: l => if c = 92 ∧ esc d = true then ctrl d :: unesc esc l else c :: unesc esc (d :: l)

variable {esc : UInt8 → Bool}

theorem unesc_pair {d : UInt8} (l : List UInt8) (h : esc d = true) : unesc esc (92 :: d :: l) = ctrl d :: unesc esc l := by
  rw [unesc, if_pos ⟨rfl, h⟩]

theorem unesc_keep {c d : UInt8} (l : List UInt8) (h : esc d = false) : unesc esc (c :: d :: l) = c :: unesc esc (d :: l) := by
  rw [unesc, if_neg (fun e => by rw [h] at e; exact absurd e.2 (by simp))]

theorem unesc_plain {c : UInt8} (l : List UInt8) (h : c ≠ 92) : unesc esc (c :: l) = c :: unesc esc l := by
  cases l with
  | nil => rfl
  | cons d l => rw [unesc, if_neg (fun e => h e.1)]

theorem unesc_last (c : UInt8) : unesc esc [c] = [c] := rfl

/-- a stretch without a backslash is kept -/
theorem unesc_run : ∀ (p l : List UInt8), (∀ c ∈ p, c ≠ 92) → unesc esc (p ++ l) = p ++ unesc esc l
  | [], _, _ => rfl
  | c :: p, l, h => by
    rw [List.cons_append, unesc_plain _ (h c (by simp)), unesc_run p l (fun x hx => h x (by simp [hx]))]
    rfl

theorem unesc_none (l : List UInt8) (h : ∀ c ∈ l, c ≠ 92) : unesc esc l = l := by
  have := unesc_run (esc := esc) l [] h
  rw [List.append_nil] at this
  rw [this]
  exact List.append_nil _

/-- no pair: nothing turns -/
theorem unesc_pairless : ∀ (l : List UInt8), (∀ i : Nat, l[i]? = some (92 : UInt8) → ∀ d : UInt8, l[i + 1]? = some d → esc d = false) → unesc esc l = l
  | [], _ => rfl
  | [c], _ => rfl
  | c :: d :: l, h => by
    have ih : unesc esc (d :: l) = d :: l := unesc_pairless (d :: l) (fun i hi e he => h (i + 1) (by simpa using hi) e (by simpa using he))
    by_cases hc : c = 92
    · have := h 0 (by simp [hc]) d (by simp)
      rw [unesc_keep _ this, ih]
    · rw [unesc_plain _ hc, ih]

/-- the letter of a control byte, or 0 -/
def letter (c : UInt8) : UInt8 :=
  if c = 7 then 97 else if c = 8 then 98 else if c = 9 then 116 else if c = 10 then 110 else if c = 11 then 118 else if c = 12 then 102 else if c = 13 then 114 else 0

/-- the byte of a letter, or 0 -/
def control (l : UInt8) : UInt8 :=
  if l = 97 then 7 else if l = 98 then 8 else if l = 116 then 9 else if l = 110 then 10 else if l = 118 then 11 else if l = 102 then 12 else if l = 114 then 13 else 0

theorem ctrl_letter (c : UInt8) (h : letter c ≠ 0) : ctrl (letter c) = c := by
  unfold letter at h ⊢
  split
  · subst_vars; rfl
  split
  · subst_vars; rfl
  split
  · subst_vars; rfl
  split
  · subst_vars; rfl
  split
  · subst_vars; rfl
  split
  · subst_vars; rfl
  split
  · subst_vars; rfl
  · simp_all

theorem ctrl_control (l : UInt8) : ctrl l = if control l ≠ 0 then control l else l := by
  unfold ctrl control
  by_cases h1 : l = 97
  · subst h1; rfl
  by_cases h2 : l = 98
  · subst h2; rfl
  by_cases h3 : l = 102
  · subst h3; rfl
  by_cases h4 : l = 110
  · subst h4; rfl
  by_cases h5 : l = 114
  · subst h5; rfl
  by_cases h6 : l = 116
  · subst h6; rfl
  by_cases h7 : l = 118
  · subst h7; rfl
  simp [h1, h2, h3, h4, h5, h6, h7]

/-- one byte escaped -/
def esc1 (esc : UInt8 → Bool) (c : UInt8) : List UInt8 :=
  if c = 92 then [92, 92] else if letter c ≠ 0 ∧ esc (letter c) = true then [92, letter c] else [c]

def escAll (esc : UInt8 → Bool) : List UInt8 → List UInt8
  | [] => []
  | c :: l => esc1 esc c ++ escAll esc l

theorem escAll_snoc (c : UInt8) : ∀ (l : List UInt8), escAll esc (l ++ [c]) = escAll esc l ++ esc1 esc c
  | [] => by simp [escAll]
  | d :: l => by simp [escAll, escAll_snoc c l]

theorem escAll_len : ∀ (l : List UInt8), (escAll esc l).length ≤ 2 * l.length
  | [] => by simp [escAll]
  | c :: l => by
    have := escAll_len l
    have h : (esc1 esc c).length ≤ 2 := by unfold esc1; split <;> (try split) <;> simp
    simp only [escAll, List.length_append, List.length_cons]
    omega

theorem unesc_escAll (h : esc 92 = true) : ∀ (l : List UInt8), unesc esc (escAll esc l) = l
  | [] => rfl
  | c :: l => by
    have ih := unesc_escAll h l
    show unesc esc (esc1 esc c ++ escAll esc l) = c :: l
    unfold esc1
    split
    · rename_i hc
      subst hc
      show unesc esc (92 :: 92 :: escAll esc l) = _
      rw [unesc_pair _ h, ih]
      rfl
    · rename_i hc
      split
      · rename_i hl
        show unesc esc (92 :: letter c :: escAll esc l) = _
        rw [unesc_pair _ hl.2, ih, ctrl_letter c hl.1]
      · show unesc esc (c :: escAll esc l) = _
        rw [unesc_plain _ hc, ih]

end Ue
end Go.Proofs.Qxb6603439a
