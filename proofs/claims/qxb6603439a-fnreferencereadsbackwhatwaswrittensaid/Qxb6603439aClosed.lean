/-
  THE LAW's WALK: FnReferenceClosedForm (6).
-/
import Derived.Test.Qxb6603439aRef
namespace Go.Proofs.Qxb6603439a
open Go.RowKit

namespace Rf
/-- what a bound on total length answers: some bool -/
def SomeBool (e : Ending) : Prop := ∃ b : Bool, e = .returned (.bool b)

def TrueBelow (w : World) (e : Ending) (w' : World) : Prop := e = .returned (.bool true) ∧ Below w.heap.size w w'

theorem no_of {l : List UInt8} {i : Nat} (h : Lib.NoAny l [125, 58] i) : (∀ j, j < i → l[j]? ≠ some 125) ∧ (∀ j, j < i → l[j]? ≠ some 58) :=
  ⟨fun j hj e => absurd (h j 125 hj e) (by decide), fun j hj e => absurd (h j 58 hj e) (by decide)⟩

/-- where there is none before i, and i is no place of c -/
theorem ib_after {l : List UInt8} {c : UInt8} {i : Nat} (h : ∀ j, j < i → l[j]? ≠ some c) (hi : l[i]? ≠ some c) : Lib.indexByte l c = -1 ∨ ∃ k : Nat, Lib.indexByte l c = k ∧ i < k ∧ l[k]? = some c := by
  rcases ib_cases l c with ⟨h1, _⟩ | ⟨k, h1, h2, _⟩
  · exact Or.inl h1
  · refine Or.inr ⟨k, h1, ?_, h2⟩
    rcases Nat.lt_or_ge i k with h3 | h3
    · exact h3
    · exfalso
      by_cases e : k = i
      · subst e; exact hi h2
      · exact h k (by omega) h2

theorem lt_of_at {s : ByteArray} {k : Nat} {c : UInt8} (h : (bl s)[k]? = some c) : k < s.size := by
  have := (List.getElem?_eq_some_iff.1 h).1
  rwa [len_bl] at this

/-- the closed form's four cases -/
theorem cases4 {s a b : ByteArray} {n : Int} (h : RefIs s a b n) (j1 j2 : Int) (e1 : Lib.indexByte (bl s) 125 = j1) (e2 : Lib.indexByte (bl s) 58 = j2) :
    (j1 = -1 ∧ a = ByteArray.empty ∧ b = ByteArray.empty ∧ n = -1) ∨
    (∃ i : Nat, i < s.size ∧ j1 = i ∧ (j2 = -1 ∨ ∃ k : Nat, j2 = k ∧ i < k) ∧ a = s.extract 0 i ∧ b = ByteArray.empty ∧ n = (i : Int) + 1) ∨
    (∃ i k : Nat, k < s.size ∧ j2 = i ∧ j1 = k ∧ i < k ∧ (bl s)[i + 1]? ≠ some 45 ∧ a = ByteArray.empty ∧ b = ByteArray.empty ∧ n = -1) ∨
    (∃ i k : Nat, k < s.size ∧ j2 = i ∧ j1 = k ∧ i + 2 ≤ k ∧ (bl s)[i + 1]? = some 45 ∧ a = s.extract 0 i ∧ b = s.extract (i + 2) k ∧ n = (k : Int) + 1) := by
  subst e1 e2
  rcases h with ⟨hno, ha, hb, hn⟩ | ⟨i, hlt, hno, hc, ha, hb, hn⟩ | ⟨i, hlt, hno, hc, h45, ha, hb, hn⟩ | ⟨i, hlt, hno, hc, h45, hnone, ha, hb, hn⟩ | ⟨i, j, hij, hlt, hno, hc, h45, hfirst, hj, ha, hb, hn⟩
  · refine Or.inl ⟨ib_none (fun j e => (no_of hno).1 j (lt_of_at e) e), ha, hb, hn⟩
  · refine Or.inr (Or.inl ⟨i, hlt, ib_hit (no_of hno).1 hc, ?_, ha, hb, hn⟩)
    rcases ib_after (no_of hno).2 (by rw [hc]; decide) with h | ⟨k, h, hk, _⟩
    · exact Or.inl h
    · exact Or.inr ⟨k, h, hk⟩
  · rcases ib_after (no_of hno).1 (by rw [hc]; decide) with h | ⟨k, h, hk, hkc⟩
    · exact Or.inl ⟨h, ha, hb, hn⟩
    · exact Or.inr (Or.inr (Or.inl ⟨i, k, lt_of_at hkc, ib_hit (no_of hno).2 hc, h, hk, h45, ha, hb, hn⟩))
  · refine Or.inl ⟨ib_none (fun j e => ?_), ha, hb, hn⟩
    by_cases h1 : j < i
    · exact (no_of hno).1 j h1 e
    · by_cases h2 : j = i
      · subst h2; rw [hc] at e; exact absurd e (by decide)
      · by_cases h3 : j = i + 1
        · subst h3; rw [h45] at e; exact absurd e (by decide)
        · exact hnone j (by omega) e
  · refine Or.inr (Or.inr (Or.inr ⟨i, j, hlt, ib_hit (no_of hno).2 hc, ib_hit (fun k hk e => ?_) hj, hij, h45, ha, hb, hn⟩))
    by_cases h1 : k < i
    · exact (no_of hno).1 k h1 e
    · by_cases h2 : k = i
      · subst h2; rw [hc] at e; exact absurd e (by decide)
      · by_cases h3 : k = i + 1
        · subst h3; rw [h45] at e; exact absurd e (by decide)
        · exact hfirst k (by omega) hk e

theorem zzib125 (s : ByteArray) (w : World) (hs : s.size ≤ 4000000) : Calls Try.prog 18 #[.string s, .int .u8 125] w fun e w' => e = .returned (.int .i64 (Lib.indexByte (bl s) 125)) ∧ w' = w := zzib s 125 w hs
theorem zzib58 (s : ByteArray) (w : World) (hs : s.size ≤ 4000000) : Calls Try.prog 18 #[.string s, .int .u8 58] w fun e w' => e = .returned (.int .i64 (Lib.indexByte (bl s) 58)) ∧ w' = w := zzib s 58 w hs

set_option maxHeartbeats 400000 in
theorem bytes16 (s : ByteArray) (w : World) (h1 : s.size ≤ maxLen) :
    Calls Try.prog 16 #[.string s] w fun en w' => SomeBool en ∧ w' = w := by
  unfold maxLen at h1
  go_enter Try.func16, Try.ntmps16
  go_wp2
  all_goals
    go_ret
    exact ⟨⟨_, rfl⟩, rfl⟩

set_option maxHeartbeats 1000000 in
set_option maxRecDepth 100000 in
theorem closed_walk (s : ByteArray) (w : World) (h1 : s.size ≤ maxLen) :
    Calls Try.prog 6 #[.string s] w fun en w' => TrueBelow w en w' := by
  have H1 : Hid (s.size ≤ maxLen) := h1
  unfold maxLen at h1
  go_enter Try.func6, Try.ntmps6
  go_wp2_with fail
  refine (bytes16 _ _ H1.out).mono ?_
  rintro en w' ⟨⟨ok0, rfl⟩, rfl⟩
  cases ok0
  · go_wp2
    go_ret
    exact ⟨rfl, Below.refl _ _⟩
  clear H1
  by_cases hs : 1048576 < (s.size : Int)
  · go_wp2
    go_ret
    exact ⟨rfl, Below.refl _ _⟩
  go_wp2_with fail
  refine (zz_ref s _ (by omega)).mono ?_
  rintro en w1 ⟨a, b, n, rfl, hr, hb⟩
  have HR : Hid (RefIs s a b n) := hr
  have HB : Hid (Below w'.heap.size w' w1) := hb
  clear hr hb
  go_wp2_with fail
  refine (zzib125 s _ (by omega)).mono ?_
  rintro en w2 ⟨rfl, rfl⟩
  generalize hj1 : Lib.indexByte (bl s) 125 = j1
  have HJ1 : Hid (Lib.indexByte (bl s) 125 = j1) := hj1
  clear hj1
  go_wp2_with fail
  refine (zzib58 s _ (by omega)).mono ?_
  rintro en w3 ⟨rfl, rfl⟩
  generalize hj2 : Lib.indexByte (bl s) 58 = j2
  have H4 := cases4 HR.out j1 j2 HJ1.out hj2
  clear hj2 HJ1 HR
  rcases H4 with ⟨rfl, rfl, rfl, rfl⟩ | ⟨i, hi, rfl, hj2, rfl, rfl, rfl⟩ | ⟨i, k, hk, rfl, rfl, hik, h45, rfl, rfl, rfl⟩ | ⟨i, k, hk, rfl, rfl, hik, h45, rfl, rfl, rfl⟩
  · go_wp2
    go_ret
    exact ⟨rfl, HB.out⟩
  · rcases hj2 with rfl | ⟨k, rfl, hik⟩
    · go_wp2
      go_ret
      refine ⟨?_, HB.out⟩
      simp
    · have hd : decide ((i : Int) < (k : Int)) = true := decide_eq_true (by omega)
      have hd2 : decide ((k : Int) < 0) = false := decide_eq_false (by omega)
      go_wp2
      go_ret
      refine ⟨?_, HB.out⟩
      simp
  · have hne : s[i + 1]'(by omega) ≠ 45 := fun e => h45 (by rw [at_bl s (i + 1) (by omega), e])
    have hd : decide ((k : Int) < (i : Int)) = false := decide_eq_false (by omega)
    have hd2 : decide ((i : Int) < 0) = false := decide_eq_false (by omega)
    have hb45 : (((s[i + 1]'(by omega)).toNat : Int) == 45) = false := by
      rw [beq_eq_false_iff_ne]
      intro h
      exact hne (UInt8.toNat_inj.1 (by simp; omega))
    clear hne h45
    go_wp2
    go_ret
    exact ⟨rfl, HB.out⟩
  · have heq : s[i + 1]'(by omega) = 45 := by
      have := at_bl s (i + 1) (by omega)
      rw [h45] at this
      injection this with this
      exact this.symm
    have hd : decide ((k : Int) < (i : Int)) = false := decide_eq_false (by omega)
    have hd2 : decide ((i : Int) < 0) = false := decide_eq_false (by omega)
    clear h45
    go_wp2
    go_ret
    refine ⟨?_, HB.out⟩
    simp
end Rf
end Go.Proofs.Qxb6603439a
