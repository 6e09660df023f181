/-
  PLAIN LAWS, MORE: a stream of tokens (a byte, or a wildcard below zero): what it matches ('G'); that the stream of a split pattern matches as the pattern does; the one back-up point's invariant.
-/
import Derived.Test.Qxb6603290aPlain
namespace Go.Proofs.Qxb6603290a
namespace Wc

def tok (b : UInt8) : Int := (b.toNat : Int)

theorem tok_nonneg (b : UInt8) : 0 ≤ tok b := by unfold tok; omega
theorem tok_inj {a b : UInt8} (h : tok a = tok b) : a = b := by
  unfold tok at h
  exact UInt8.toNat_inj.1 (by omega)

/-- what a stream of tokens matches -/
def G : List Int → List UInt8 → Prop
  | [], s => s = []
  | t :: ts, s => (t < 0 ∧ ∃ a b, s = a ++ b ∧ G ts b) ∨ (0 ≤ t ∧ ∃ c b, s = c :: b ∧ t = tok c ∧ G ts b)

theorem G_star {t : Int} {ts : List Int} {s : List UInt8} (h : t < 0) : G (t :: ts) s ↔ ∃ a b, s = a ++ b ∧ G ts b := by
  constructor
  · rintro (⟨_, h2⟩ | ⟨h1, _⟩)
    · exact h2
    · omega
  · intro h2; exact Or.inl ⟨h, h2⟩

theorem G_byte {c : UInt8} {ts : List Int} {s : List UInt8} : G (tok c :: ts) s ↔ ∃ b, s = c :: b ∧ G ts b := by
  have := tok_nonneg c
  constructor
  · rintro (⟨h1, _⟩ | ⟨_, c', b, rfl, e, hb⟩)
    · omega
    · rw [tok_inj e]; exact ⟨b, rfl, hb⟩
  · rintro ⟨b, rfl, hb⟩; exact Or.inr ⟨this, c, b, rfl, rfl, hb⟩

theorem G_bytes : ∀ (p : List UInt8) (ts : List Int) (s : List UInt8), G (p.map tok ++ ts) s ↔ ∃ b, s = p ++ b ∧ G ts b
  | [], ts, s => by
    constructor
    · intro h; exact ⟨s, rfl, h⟩
    · rintro ⟨b, rfl, h⟩; exact h
  | c :: p, ts, s => by
    show G (tok c :: (p.map tok ++ ts)) s ↔ _
    rw [G_byte]
    constructor
    · rintro ⟨b, rfl, hb⟩
      obtain ⟨d, rfl, hd⟩ := (G_bytes p ts b).1 hb
      exact ⟨d, rfl, hd⟩
    · rintro ⟨b, rfl, hb⟩
      exact ⟨p ++ b, rfl, (G_bytes p ts _).2 ⟨b, rfl, hb⟩⟩

/-- the stream of a split pattern -/
def toks : List (List UInt8) → List Int
  | [] => []
  | [p] => p.map tok
  | p :: q :: ps => p.map tok ++ (-1) :: toks (q :: ps)

theorem G_toks : ∀ (ps : List (List UInt8)) (s : List UInt8), ps ≠ [] → (G (toks ps) s ↔ Fits ps s)
  | [], _, h => absurd rfl h
  | [p], s, _ => by
    have := G_bytes p [] s
    rw [List.append_nil] at this
    show G (p.map tok) s ↔ s = p
    rw [this]
    constructor
    · rintro ⟨b, rfl, hb⟩
      have hb' : b = [] := hb
      rw [hb', List.append_nil]
    · rintro rfl; exact ⟨[], by simp, rfl⟩
  | p :: q :: ps, s, _ => by
    show G (p.map tok ++ (-1) :: toks (q :: ps)) s ↔ ∃ x b, s = p ++ (x ++ b) ∧ Fits (q :: ps) b
    rw [G_bytes]
    constructor
    · rintro ⟨b, rfl, hb⟩
      obtain ⟨x, d, rfl, hd⟩ := (G_star (by omega)).1 hb
      exact ⟨x, d, rfl, (G_toks (q :: ps) d (by simp)).1 hd⟩
    · rintro ⟨x, d, rfl, hd⟩
      exact ⟨x ++ d, rfl, (G_star (by omega)).2 ⟨x, d, rfl, (G_toks (q :: ps) d (by simp)).2 hd⟩⟩

theorem toks_snoc : ∀ (l : List (List UInt8)) (q : List UInt8), l ≠ [] → toks (l ++ [q]) = toks l ++ [-1] ++ q.map tok
  | [], _, h => absurd rfl h
  | [p], q, _ => by simp [toks]
  | p :: p' :: ps, q, _ => by
    have := toks_snoc (p' :: ps) q (by simp)
    show p.map tok ++ (-1) :: toks (p' :: (ps ++ [q])) = (p.map tok ++ (-1) :: toks (p' :: ps)) ++ [-1] ++ q.map tok
    rw [List.cons_append] at this
    rw [this]
    simp

theorem toks_range : ∀ (ps : List (List UInt8)), ∀ t ∈ toks ps, -1 ≤ t ∧ t ≤ 255
  | [] => by simp [toks]
  | [p] => by
    intro t ht
    simp only [toks, List.mem_map] at ht
    obtain ⟨b, _, rfl⟩ := ht
    have := b.toNat_lt
    unfold tok; omega
  | p :: q :: ps => by
    intro t ht
    simp only [toks, List.mem_append, List.mem_map, List.mem_cons] at ht
    rcases ht with ⟨b, _, rfl⟩ | rfl | h
    · have := b.toNat_lt
      unfold tok; omega
    · omega
    · exact toks_range (q :: ps) t h

/-- the invariant of the matcher with one back-up point -/
def Inv (T : List Int) (S : List UInt8) (pi si : Nat) (star : Int) (mark : Nat) : Prop :=
  pi ≤ T.length ∧ si ≤ S.length ∧ mark ≤ si ∧
  ((star = -1 ∧ (G T S ↔ G (T.drop pi) (S.drop si))) ∨
   ∃ (st : Nat) (seg : List UInt8) (x : Int), star = (st : Int) ∧ st < T.length ∧ x < 0 ∧ T.drop st = x :: (seg.map tok ++ T.drop pi) ∧ S.drop mark = seg ++ S.drop si ∧ (G T S ↔ G (T.drop st) (S.drop mark)))

theorem Inv.start (T : List Int) (S : List UInt8) : Inv T S 0 0 (-1) 0 := ⟨Nat.zero_le _, Nat.zero_le _, Nat.zero_le _, Or.inl ⟨rfl, by simp⟩⟩

theorem Inv.star_range {T : List Int} {S : List UInt8} {pi si mark : Nat} {star : Int} (h : Inv T S pi si star mark) : -1 ≤ star ∧ star < T.length := by
  rcases h.2.2.2 with ⟨rfl, _⟩ | ⟨st, seg, x, rfl, hst, _⟩ <;> omega

theorem drop_at {α : Type} {l : List α} {i : Nat} {a : α} (h : l[i]? = some a) : l.drop i = a :: l.drop (i + 1) ∧ i < l.length := by
  obtain ⟨hlt, rfl⟩ := List.getElem?_eq_some_iff.1 h
  exact ⟨List.drop_eq_getElem_cons hlt, hlt⟩

theorem Inv.lit {T : List Int} {S : List UInt8} {pi si mark : Nat} {star : Int} {c : UInt8} (h : Inv T S pi si star mark) (hT : T[pi]? = some (tok c)) (hS : S[si]? = some c) : Inv T S (pi + 1) (si + 1) star mark := by
  obtain ⟨h1, h2, h3, h4⟩ := h
  obtain ⟨eT, lT⟩ := drop_at hT
  obtain ⟨eS, lS⟩ := drop_at hS
  refine ⟨lT, lS, by omega, ?_⟩
  rcases h4 with ⟨rfl, h⟩ | ⟨st, seg, x, rfl, hst, hx, ht, hs, h⟩
  · refine Or.inl ⟨rfl, h.trans ?_⟩
    rw [eT, eS, G_byte]
    constructor
    · rintro ⟨b, e, hb⟩
      injection e with _ e
      rw [e]; exact hb
    · intro hb; exact ⟨_, rfl, hb⟩
  · refine Or.inr ⟨st, seg ++ [c], x, rfl, hst, hx, ?_, ?_, h⟩
    · rw [ht, eT]; simp
    · rw [hs, eS]; simp

theorem Inv.star {T : List Int} {S : List UInt8} {pi si mark : Nat} {star : Int} {y : Int} (h : Inv T S pi si star mark) (hT : T[pi]? = some y) (hy : y < 0) : Inv T S (pi + 1) si (pi : Int) si := by
  obtain ⟨h1, h2, h3, h4⟩ := h
  obtain ⟨eT, lT⟩ := drop_at hT
  refine ⟨lT, h2, Nat.le_refl _, Or.inr ⟨pi, [], y, rfl, lT, hy, by rw [eT]; rfl, rfl, ?_⟩⟩
  rcases h4 with ⟨rfl, h⟩ | ⟨st, seg, x, rfl, hst, hx, ht, hs, h⟩
  · exact h
  · refine h.trans ?_
    rw [ht, hs, G_star hx, eT, G_star hy]
    generalize S.drop si = V
    generalize T.drop (pi + 1) = U
    constructor
    · rintro ⟨a, b, e, hb⟩
      obtain ⟨b', rfl, hb'⟩ := (G_bytes _ _ _).1 hb
      obtain ⟨a2, b2, rfl, hb2⟩ := (G_star hy).1 hb'
      have hl : b2.length ≤ V.length := by
        have := congrArg List.length e
        simp at this
        omega
      have e2 : V = V.take (V.length - b2.length) ++ b2 := by
        have h5 : (seg ++ V).drop (seg.length + (V.length - b2.length)) = b2 := by
          have h6 := congrArg List.length e
          simp at h6
          rw [e, show seg.length + (V.length - b2.length) = (a ++ (seg ++ a2)).length from by simp; omega]
          rw [show a ++ (seg ++ (a2 ++ b2)) = (a ++ (seg ++ a2)) ++ b2 from by simp, List.drop_left]
        rw [← List.drop_drop, List.drop_left] at h5
        have := List.take_append_drop (V.length - b2.length) V
        rw [h5] at this
        exact this.symm
      exact ⟨_, b2, e2, hb2⟩
    · rintro ⟨a, b, rfl, hb⟩
      exact ⟨[], seg ++ (a ++ b), rfl, (G_bytes _ _ _).2 ⟨a ++ b, rfl, (G_star hy).2 ⟨a, b, rfl, hb⟩⟩⟩

/-- at this place the stream and the text part -/
def Parts (T : List Int) (S : List UInt8) (pi si : Nat) : Prop := ∃ c, S[si]? = some c ∧ (T[pi]? = none ∨ ∃ y, T[pi]? = some y ∧ 0 ≤ y ∧ y ≠ tok c)

theorem Parts.no {T : List Int} {S : List UInt8} {pi si : Nat} (h : Parts T S pi si) : ¬ G (T.drop pi) (S.drop si) := by
  obtain ⟨c, hc, h⟩ := h
  obtain ⟨eS, lS⟩ := drop_at hc
  rw [eS]
  rcases h with h | ⟨y, h, h0, hne⟩
  · rw [List.drop_of_length_le (List.getElem?_eq_none_iff.1 h)]
    intro hg
    have : c :: S.drop (si + 1) = [] := hg
    cases this
  · obtain ⟨eT, _⟩ := drop_at h
    rw [eT]
    rintro (⟨h1, _⟩ | ⟨_, c', b, e, ey, _⟩)
    · omega
    · injection e with e1 e2
      subst e1
      exact hne ey

theorem Inv.fail {T : List Int} {S : List UInt8} {pi si mark : Nat} {star : Int} (h : Inv T S pi si star mark) (hp : Parts T S pi si) (hs : star < 0) : ¬ G T S := by
  rcases h.2.2.2 with ⟨_, h'⟩ | ⟨st, seg, x, rfl, _⟩
  · rw [h']; exact hp.no
  · omega

theorem Inv.back {T : List Int} {S : List UInt8} {pi si mark st : Nat} (h : Inv T S pi si (st : Int) mark) (hp : Parts T S pi si) : Inv T S (st + 1) (mark + 1) (st : Int) (mark + 1) := by
  obtain ⟨h1, h2, h3, h4⟩ := h
  have lS : si < S.length := by
    obtain ⟨c, hc, _⟩ := hp
    exact (drop_at hc).2
  rcases h4 with ⟨e, h⟩ | ⟨st', seg, x, e, hst, hx, ht, hs, h⟩
  · omega
  · obtain rfl : st = st' := by omega
    refine ⟨hst, by omega, Nat.le_refl _, Or.inr ⟨st, [], x, rfl, hst, hx, ?_, rfl, h.trans ?_⟩⟩
    · have e1 := List.drop_eq_getElem_cons hst
      have e2 : T[st] = x := by rw [e1] at ht; injection ht
      rw [e1, e2]; rfl
    · have no := hp.no
      have eD : S.drop mark = S[mark] :: S.drop (mark + 1) := List.drop_eq_getElem_cons (by omega)
      rw [ht, G_star hx, G_star hx]
      constructor
      · rintro ⟨a, b, eb, hb⟩
        cases a with
        | nil =>
          exfalso
          rw [List.nil_append] at eb
          rw [← eb, hs] at hb
          obtain ⟨b', e', hb'⟩ := (G_bytes _ _ _).1 hb
          rw [List.append_cancel_left e'] at no
          exact no hb'
        | cons d a =>
          rw [eD, List.cons_append] at eb
          injection eb with _ eb
          exact ⟨a, b, eb, hb⟩
      · rintro ⟨a, b, eb, hb⟩
        exact ⟨S[mark] :: a, b, by rw [eD, eb]; rfl, hb⟩

theorem Inv.out {T : List Int} {S : List UInt8} {pi si mark : Nat} {star : Int} (h : Inv T S pi si star mark) (he : si = S.length) : G T S ↔ G (T.drop pi) [] := by
  obtain ⟨h1, h2, h3, h4⟩ := h
  have eV : S.drop si = [] := List.drop_of_length_le (by omega)
  rcases h4 with ⟨rfl, h⟩ | ⟨st, seg, x, rfl, hst, hx, ht, hs, h⟩
  · rw [h, eV]
  · rw [h, ht, hs, eV, List.append_nil, G_star hx]
    constructor
    · rintro ⟨a, b, e, hb⟩
      obtain ⟨b', rfl, hb'⟩ := (G_bytes _ _ _).1 hb
      have : b' = [] := by
        have := congrArg List.length e
        simp at this
        exact List.eq_nil_of_length_eq_zero (by omega)
      rw [this] at hb'
      exact hb'
    · intro hb
      exact ⟨[], seg, rfl, (G_bytes _ _ _).2 ⟨[], by simp, hb⟩⟩

theorem tail_star {T : List Int} {pi : Nat} {y : Int} (hT : T[pi]? = some y) (hy : y < 0) : G (T.drop pi) [] ↔ G (T.drop (pi + 1)) [] := by
  rw [(drop_at hT).1, G_star hy]
  constructor
  · rintro ⟨a, b, e, hb⟩
    have : b = [] := by
      have := congrArg List.length e
      simp at this
      exact List.eq_nil_of_length_eq_zero (by omega)
    rw [this] at hb
    exact hb
  · intro hb; exact ⟨[], [], rfl, hb⟩

theorem tail_end {T : List Int} {pi : Nat} (h : pi = T.length) : G (T.drop pi) [] := by
  rw [List.drop_of_length_le (by omega)]
  rfl

theorem tail_byte {T : List Int} {pi : Nat} {y : Int} (hT : T[pi]? = some y) (hy : 0 ≤ y) : ¬ G (T.drop pi) [] := by
  rw [(drop_at hT).1]
  rintro (⟨h1, _⟩ | ⟨_, c, b, e, _⟩)
  · omega
  · cases e

/-- the measure of the matcher's loop -/
def meas (s t pi si mark : Nat) : Nat := (s - mark) * (s + t + 1) + (s - si) + (t - pi)

theorem meas_lit {s t pi si mark : Nat} (h1 : pi < t) : meas s t (pi + 1) (si + 1) mark < meas s t pi si mark := by
  unfold meas; omega

theorem meas_star {s t pi si mark : Nat} (h1 : pi < t) (h2 : mark ≤ si) : meas s t (pi + 1) si si < meas s t pi si mark := by
  unfold meas
  have := Nat.mul_le_mul_right (s + t + 1) (show s - si ≤ s - mark from by omega)
  omega

theorem meas_back {s t pi si st mark : Nat} (h1 : mark ≤ si) (h2 : si < s) : meas s t (st + 1) (mark + 1) (mark + 1) < meas s t pi si mark := by
  unfold meas
  have e : (s - mark) = (s - (mark + 1)) + 1 := by omega
  rw [e, Nat.add_mul]
  omega

end Wc
end Go.Proofs.Qxb6603290a
