/-
  PLAIN LAWS: no Go text here. What a pattern of parts matches ('Fits'), what the library's road answers ('wild'), and that the two are one.
-/
import Derived.Lib.IndexMore
import Derived.Lib.Strings
namespace Go.Proofs.Qxb6603290a
namespace Wc

/-- the parts, in their order, with whatever between -/
def Emb : List (List UInt8) → List UInt8 → Prop
  | [], _ => True
  | p :: ps, s => ∃ a b, s = a ++ (p ++ b) ∧ Emb ps b

theorem Emb.pre : ∀ {ps : List (List UInt8)} {s : List UInt8} (c : List UInt8), Emb ps s → Emb ps (c ++ s)
  | [], _, _, _ => trivial
  | p :: ps, s, c, h => by
    obtain ⟨a, b, rfl, hb⟩ := h
    exact ⟨c ++ a, b, by simp, hb⟩

/-- the library's road: each part at its earliest place -/
def mids : List (List UInt8) → List UInt8 → Bool
  | [], _ => true
  | p :: ps, s => if Lib.index s p < 0 then false else mids ps (s.drop ((Lib.index s p).toNat + p.length))

theorem occ_split {s p : List UInt8} {i : Nat} (h : Lib.occAt s p i = true) : s = s.take i ++ (p ++ s.drop (i + p.length)) := by
  unfold Lib.occAt at h
  obtain ⟨t, ht⟩ := List.isPrefixOf_iff_prefix.1 h
  have e1 : s = s.take i ++ s.drop i := (List.take_append_drop i s).symm
  have e2 : s.drop (i + p.length) = t := by
    rw [← List.drop_drop, ← ht, List.drop_left]
  rw [e2, ht]; exact e1

theorem occ_of_split (a p b : List UInt8) : Lib.occAt (a ++ (p ++ b)) p a.length = true := by
  unfold Lib.occAt
  rw [List.drop_left]
  exact List.isPrefixOf_iff_prefix.2 ⟨b, rfl⟩

theorem mids_iff : ∀ (ps : List (List UInt8)) (s : List UInt8), mids ps s = true ↔ Emb ps s
  | [], s => by simp [mids, Emb]
  | p :: ps, s => by
    rcases Lib.index_spec s p with ⟨h, hn⟩ | ⟨i, h, hi, ho, hno⟩
    · simp only [mids, h, Emb]
      constructor
      · intro hf; simp at hf
      · rintro ⟨a, b, rfl, _⟩
        have := hn a.length (by simp)
        rw [occ_of_split] at this
        cases this
    · have hlt : ¬ ((i : Int) < 0) := by omega
      simp only [mids, h, if_neg hlt, Int.toNat_natCast, Emb]
      rw [mids_iff ps]
      constructor
      · intro he
        exact ⟨s.take i, s.drop (i + p.length), occ_split ho, he⟩
      · rintro ⟨a, b, rfl, hb⟩
        have hia : i ≤ a.length := by
          rcases Nat.lt_or_ge a.length i with hl | hl
          · have := hno a.length hl
            rw [occ_of_split] at this
            cases this
          · exact hl
        have : (a ++ (p ++ b)).drop (i + p.length) = ((a ++ p).drop (i + p.length)) ++ b := by
          rw [← List.append_assoc, List.drop_append_of_le_length (by simp; omega)]
        rw [this]
        exact hb.pre _

/-- what a split pattern says -/
def Fits : List (List UInt8) → List UInt8 → Prop
  | [], _ => False
  | [p], s => s = p
  | p :: q :: ps, s => ∃ x b, s = p ++ (x ++ b) ∧ Fits (q :: ps) b

/-- behind a wildcard: the mids, then the last -/
theorem fits_behind : ∀ (ps : List (List UInt8)) (l : List UInt8) (s : List UInt8), (∃ x b, s = x ++ b ∧ Fits (ps ++ [l]) b) ↔ ∃ c, s = c ++ l ∧ Emb ps c
  | [], l, s => by
    simp only [List.nil_append, Fits, Emb, and_true]
    constructor
    · rintro ⟨x, b, rfl, rfl⟩; exact ⟨x, rfl⟩
    · rintro ⟨c, rfl⟩; exact ⟨c, l, rfl, rfl⟩
  | p :: ps, l, s => by
    constructor
    · rintro ⟨x, b, rfl, hb⟩
      have hb' : ∃ y d, b = p ++ (y ++ d) ∧ Fits (ps ++ [l]) d := by
        cases ps with
        | nil => exact hb
        | cons q qs => exact hb
      obtain ⟨y, d, rfl, hd⟩ := hb'
      obtain ⟨c, hc, he⟩ := (fits_behind ps l (y ++ d)).1 ⟨y, d, rfl, hd⟩
      refine ⟨x ++ (p ++ c), by rw [hc]; simp, x, c, rfl, he⟩
    · rintro ⟨c, rfl, a, b, rfl, he⟩
      obtain ⟨x, d, hxd, hf⟩ := (fits_behind ps l (b ++ l)).2 ⟨b, rfl, he⟩
      refine ⟨a, p ++ (b ++ l), by simp, ?_⟩
      cases ps with
      | nil => exact ⟨x, d, by rw [hxd], hf⟩
      | cons q qs => exact ⟨x, d, by rw [hxd], hf⟩

/-- the answer of the library's road at one part or more -/
def wild (ps : List (List UInt8)) (s : List UInt8) : Bool :=
  if ps.length = 1 then s == ps.headD []
  else if s.length < (ps.headD []).length + (ps.getLastD []).length then false
  else if Lib.hasPrefix s (ps.headD []) = false then false
  else if Lib.hasSuffix s (ps.getLastD []) = false then false
  else mids ps.tail.dropLast ((s.take (s.length - (ps.getLastD []).length)).drop (ps.headD []).length)

theorem wild_iff (ps : List (List UInt8)) (s : List UInt8) (h : ps ≠ []) : wild ps s = true ↔ Fits ps s := by
  cases ps with
  | nil => exact absurd rfl h
  | cons p qs =>
    rcases List.eq_nil_or_concat qs with rfl | ⟨ms, l, rfl⟩
    · simp [wild, Fits]
    · rw [List.concat_eq_append]
      have hl : (p :: (ms ++ [l])).getLastD [] = l := by
        rw [List.getLastD_eq_getLast?, ← List.cons_append, List.getLast?_append]; rfl
      have hF : Fits (p :: (ms ++ [l])) s ↔ ∃ t, s = p ++ t ∧ ∃ x b, t = x ++ b ∧ Fits (ms ++ [l]) b := by
        have : Fits (p :: (ms ++ [l])) s ↔ ∃ x b, s = p ++ (x ++ b) ∧ Fits (ms ++ [l]) b := by
          cases ms with
          | nil => exact Iff.rfl
          | cons q qs => exact Iff.rfl
        rw [this]
        constructor
        · rintro ⟨x, b, rfl, hb⟩; exact ⟨x ++ b, rfl, x, b, rfl, hb⟩
        · rintro ⟨t, rfl, x, b, rfl, hb⟩; exact ⟨x, b, rfl, hb⟩
      rw [hF]
      simp only [fits_behind]
      unfold wild
      rw [hl]
      simp only [List.headD_cons, List.tail_cons, List.dropLast_concat]
      rw [if_neg (by simp)]
      constructor
      · intro hw
        split at hw
        · cases hw
        · rename_i hlen
          split at hw
          · cases hw
          · rename_i hp
            split at hw
            · cases hw
            · rename_i hs
              have hp' : p <+: s := List.isPrefixOf_iff_prefix.1 (by simpa [Lib.hasPrefix] using hp)
              have hs' : l <:+ s := List.isSuffixOf_iff_suffix.1 (by simpa [Lib.hasSuffix] using hs)
              obtain ⟨t, rfl⟩ := hp'
              obtain ⟨u, hu⟩ := hs'
              have hlu : p.length ≤ u.length := by
                have := congrArg List.length hu
                simp at this hlen
                omega
              have e1 : (p ++ t).take ((p ++ t).length - l.length) = u := by
                rw [← hu]; simp
              rw [e1, mids_iff] at hw
              have hpu : u = p ++ u.drop p.length := by
                have h1 : u.take p.length = p := by
                  have := congrArg (List.take p.length) hu
                  rw [List.take_append_of_le_length hlu, List.take_left] at this
                  exact this
                have h2 := List.take_append_drop p.length u
                rw [h1] at h2; exact h2.symm
              refine ⟨t, rfl, u.drop p.length, ?_, hw⟩
              have h3 : p ++ (u.drop p.length ++ l) = p ++ t := by
                rw [← List.append_assoc, ← hpu, hu]
              exact (List.append_cancel_left h3).symm
      · rintro ⟨t, rfl, c, rfl, he⟩
        rw [if_neg (by simp)]
        rw [if_neg (by
          have : Lib.hasPrefix (p ++ (c ++ l)) p = true := List.isPrefixOf_iff_prefix.2 ⟨c ++ l, rfl⟩
          simp [this])]
        rw [if_neg (by
          have : Lib.hasSuffix (p ++ (c ++ l)) l = true := List.isSuffixOf_iff_suffix.2 ⟨p ++ c, by simp⟩
          simp [this])]
        have e1 : (p ++ (c ++ l)).take ((p ++ (c ++ l)).length - l.length) = p ++ c := by
          rw [← List.append_assoc]
          have : (p ++ c ++ l).length - l.length = (p ++ c).length := by simp; omega
          rw [this, List.take_left]
        rw [e1, List.drop_left, mids_iff]
        exact he

/-- the filling: part 0, then a filling and a part, ... -/
def fillUp (p0 : List UInt8) (ps fs : List (List UInt8)) : List UInt8 :=
  match ps with
  | [] => p0
  | q :: qs => p0 ++ (fs.headD [] ++ fillUp q qs fs.tail)

theorem fits_fill : ∀ (ps : List (List UInt8)) (p0 : List UInt8) (fs : List (List UInt8)), Fits (p0 :: ps) (fillUp p0 ps fs)
  | [], p0, fs => by simp [Fits, fillUp]
  | q :: qs, p0, fs => ⟨fs.headD [], fillUp q qs fs.tail, rfl, fits_fill qs q fs.tail⟩

end Wc
end Go.Proofs.Qxb6603290a
