/-
  WALKS: zzIndexByte (18), reference (24), ZZreference (17).
-/
import Derived.Test.Qxb6603439aIa
import Derived.Test.Qxb6603439aUn
import Derived.Lib.IndexLaws
namespace Go.Proofs.Qxb6603439a
open Go.RowKit

theorem at_bl (s : ByteArray) (i : Nat) (h : i < s.size) : (bl s)[i]? = some s[i] := by
  unfold bl
  rw [Array.getElem?_toList, Array.getElem?_eq_getElem (by exact h)]
  rfl

theorem len_bl (s : ByteArray) : (bl s).length = s.size := by simp [bl]

/-- the first place of a byte -/
theorem ib_hit : ∀ {l : List UInt8} {c : UInt8} {i : Nat}, (∀ j, j < i → l[j]? ≠ some c) → l[i]? = some c → Lib.indexByte l c = i
  | [], _, _, _, h => by simp at h
  | b :: l, c, 0, _, h => by
    simp at h
    subst h
    simp [Lib.indexByte]
  | b :: l, c, i + 1, hn, h => by
    have hb : b ≠ c := fun e => hn 0 (by omega) (by simp [e])
    have ih := ib_hit (l := l) (c := c) (i := i) (fun j hj => by have := hn (j + 1) (by omega); simpa using this) (by simpa using h)
    have h1 : (b == c) = false := by simpa using hb
    have h2 : ((i : Int) == -1) = false := by rw [beq_eq_false_iff_ne]; omega
    unfold Lib.indexByte
    rw [h1, ih, h2]
    simp

theorem ib_none : ∀ {l : List UInt8} {c : UInt8}, (∀ j : Nat, l[j]? ≠ some c) → Lib.indexByte l c = -1
  | [], _, _ => rfl
  | b :: l, c, h => by
    have hb : b ≠ c := fun e => h 0 (by simp [e])
    have ih := ib_none (l := l) (c := c) (fun j => by have := h (j + 1); simpa using this)
    have h1 : (b == c) = false := by simpa using hb
    unfold Lib.indexByte
    rw [h1, ih]
    rfl

set_option maxHeartbeats 400000 in
theorem zzib (s : ByteArray) (c : UInt8) (w : World) (hs : s.size ≤ 4000000) :
    Calls Try.prog 18 #[.string s, .int .u8 (c.toNat : Int)] w fun e w' => e = .returned (.int .i64 (Lib.indexByte (bl s) c)) ∧ w' = w := by
  go_enter Try.func18, Try.ntmps18
  go_wp2
  go_loop [5] (fun i => ∃ k : Nat, k ≤ s.size ∧ i = .int .i64 k ∧ Hid (∀ j, j < k → (bl s)[j]? ≠ some c)) (fun i => s.size - (intOf i).toNat)
  case atStart => exact ⟨0, Nat.zero_le _, rfl, fun j hj => absurd hj (Nat.not_lt_zero _)⟩
  case round =>
    obtain ⟨k, hk, rfl, HK⟩ := hrel
    by_cases hlt : k < s.size
    · have HS : Hid ((bl s)[k]? = some s[k]) := at_bl s k hlt
      obtain ⟨d, hd⟩ : ∃ d, s[k] = d := ⟨_, rfl⟩
      rw [hd] at HS
      by_cases hdc : d = c
      · subst hdc
        have HE : Hid (Lib.indexByte (bl s) d = k) := ib_hit HK.out HS.out
        have hb : ((d.toNat : Int) == (d.toNat : Int)) = true := by simp
        clear HK HS
        go_wp2
        go_ret
        exact ⟨by rw [HE.out]; rfl, rfl⟩
      · have HN : Hid (∀ j, j < k + 1 → (bl s)[j]? ≠ some c) := by
          intro j hj h
          by_cases hjk : j = k
          · subst hjk
            rw [HS.out] at h
            injection h with h
            exact hdc h
          · exact HK.out j (by omega) h
        have hb : ((d.toNat : Int) == (c.toNat : Int)) = false := by
          rw [beq_eq_false_iff_ne]
          intro h
          exact hdc (UInt8.toNat_inj.1 (by omega))
        clear HK HS hdc
        go_wp2
        go_round
        case rel => exact ⟨k + 1, by omega, by go_num, HN⟩
        case measure => simp [intOf]; omega
    · have HE : Hid (Lib.indexByte (bl s) c = -1) := ib_none (fun j h => by
        have h3 := (List.getElem?_eq_some_iff.1 h).1
        rw [len_bl] at h3
        exact HK.out j (by omega) h)
      clear HK
      go_wp2
      go_ret
      exact ⟨by rw [HE.out]; rfl, rfl⟩

/-- what reference answers -/
def RefIs (s a b : ByteArray) (n : Int) : Prop :=
  (Lib.NoAny (bl s) [125, 58] s.size ∧ a = ByteArray.empty ∧ b = ByteArray.empty ∧ n = -1) ∨
  (∃ i, i < s.size ∧ Lib.NoAny (bl s) [125, 58] i ∧ (bl s)[i]? = some 125 ∧ a = s.extract 0 i ∧ b = ByteArray.empty ∧ n = (i : Int) + 1) ∨
  (∃ i, i < s.size ∧ Lib.NoAny (bl s) [125, 58] i ∧ (bl s)[i]? = some 58 ∧ (bl s)[i + 1]? ≠ some 45 ∧ a = ByteArray.empty ∧ b = ByteArray.empty ∧ n = -1) ∨
  (∃ i, i + 1 < s.size ∧ Lib.NoAny (bl s) [125, 58] i ∧ (bl s)[i]? = some 58 ∧ (bl s)[i + 1]? = some 45 ∧ (∀ j, i + 2 ≤ j → (bl s)[j]? ≠ some 125) ∧ a = ByteArray.empty ∧ b = ByteArray.empty ∧ n = -1) ∨
  (∃ i j, i + 2 ≤ j ∧ j < s.size ∧ Lib.NoAny (bl s) [125, 58] i ∧ (bl s)[i]? = some 58 ∧ (bl s)[i + 1]? = some 45 ∧ (∀ k, i + 2 ≤ k → k < j → (bl s)[k]? ≠ some 125) ∧ (bl s)[j]? = some 125 ∧ a = s.extract 0 i ∧ b = s.extract (i + 2) j ∧ n = (j : Int) + 1)

def RefOk (s : ByteArray) (w : World) (e : Ending) (w' : World) : Prop := ∃ a b n, e = .returned (.tuple #[.string a, .string b, .int .i64 n]) ∧ RefIs s a b n ∧ Below w.heap.size w w'

/-- the first of the two bytes -/
theorem any_cases (s : ByteArray) : (Lib.indexAny (bl s) [125, 58] = -1 ∧ Lib.NoAny (bl s) [125, 58] s.size) ∨ ∃ i : Nat, i < s.size ∧ Lib.indexAny (bl s) [125, 58] = i ∧ Lib.NoAny (bl s) [125, 58] i ∧ ((bl s)[i]? = some 125 ∨ (bl s)[i]? = some 58) := by
  have main : ∀ n, n ≤ s.size → Lib.NoAny (bl s) [125, 58] n ∨ ∃ i : Nat, i < n ∧ Lib.NoAny (bl s) [125, 58] i ∧ ∃ x, (bl s)[i]? = some x ∧ ([125, 58] : List UInt8).contains x = true := by
    intro n
    induction n with
    | zero => intro _; exact Or.inl (Lib.NoAny.zero _ _)
    | succ n ih =>
      intro hn
      rcases ih (by omega) with h | ⟨i, hi, h⟩
      · have hx := at_bl s n (by omega)
        cases hin : ([125, 58] : List UInt8).contains s[n]
        · exact Or.inl (h.succ hx hin)
        · exact Or.inr ⟨n, by omega, h, _, hx, hin⟩
      · exact Or.inr ⟨i, by omega, h⟩
  rcases main s.size (Nat.le_refl _) with h | ⟨i, hi, h, x, hx, hin⟩
  · exact Or.inl ⟨Lib.indexAny_none (by rw [len_bl]; exact h), h⟩
  · refine Or.inr ⟨i, hi, Lib.indexAny_hit h hx hin, h, ?_⟩
    simp only [List.contains_cons, List.contains_nil, Bool.or_false, Bool.or_eq_true, beq_iff_eq] at hin
    rcases hin with rfl | rfl
    · exact Or.inl hx
    · exact Or.inr hx

theorem pre_iff (l : List UInt8) (i : Nat) (h : l[i]? = some 58) : Lib.hasPrefix (l.drop i) [58, 45] = true ↔ l[i + 1]? = some 45 := by
  obtain ⟨hlt, he⟩ := List.getElem?_eq_some_iff.1 h
  unfold Lib.hasPrefix
  rw [List.drop_eq_getElem_cons hlt, he]
  by_cases h2 : i + 1 < l.length
  · rw [List.drop_eq_getElem_cons h2, List.getElem?_eq_getElem h2]
    simp [List.isPrefixOf]
    exact eq_comm
  · rw [List.drop_of_length_le (by omega), List.getElem?_eq_none (by omega)]
    simp [List.isPrefixOf]

theorem ib_cases (l : List UInt8) (c : UInt8) : (Lib.indexByte l c = -1 ∧ ∀ j : Nat, l[j]? ≠ some c) ∨ ∃ j : Nat, Lib.indexByte l c = j ∧ l[j]? = some c ∧ ∀ k, k < j → l[k]? ≠ some c := by
  have hge := Lib.indexByte_ge l c
  by_cases h : Lib.indexByte l c = -1
  · exact Or.inl ⟨h, fun j => Lib.indexByte_none h j⟩
  · obtain ⟨j, hj⟩ := Int.eq_ofNat_of_zero_le (show 0 ≤ Lib.indexByte l c by omega)
    exact Or.inr ⟨j, hj, (Lib.indexByte_some hj).1, (Lib.indexByte_some hj).2⟩

theorem ext_ext (s : ByteArray) (a j : Nat) (h : a + j ≤ s.size) : (s.extract a s.size).extract 0 j = s.extract a (a + j) := by
  apply WideShapes.bytes_inj
  rw [Lib.extract_data, Lib.extract_data, Lib.extract_data, List.drop_zero, Nat.sub_zero, List.take_take, show a + j - a = j from by omega, Nat.min_eq_left (by omega)]

theorem empty_mk : (⟨#[]⟩ : ByteArray) = ByteArray.empty := rfl

set_option maxHeartbeats 1000000 in
theorem ref_any (s : ByteArray) (w : World) (hs : s.size ≤ 4000000) : Calls Try.prog 24 #[.string s] w fun e w' => RefOk s w e w' := by
  rcases any_cases s with ⟨hi, hno⟩ | ⟨i, hlt, hi, hno, hc⟩
  · have HR : Hid (RefIs s ByteArray.empty ByteArray.empty (-1)) := Or.inl ⟨hno, rfl, rfl, rfl⟩
    have hi' : Lib.indexAny s.data.toList [125, 58] = -1 := hi
    clear hno hi
    go_enter Try.func24, Try.ntmps24
    go_wp2_with (go_at_call 28; refine (ia_any s _ hs).mono ?_; rintro e w1 ⟨rfl, hb⟩)
    go_ret3
    exact ⟨_, _, _, rfl, HR.out, hb⟩
  · have hi' : Lib.indexAny s.data.toList [125, 58] = i := hi
    have hsi : s[i] = ((bl s)[i]?).getD 0 := by rw [at_bl s i hlt]; rfl
    rcases hc with hc | hc
    · rw [hc] at hsi
      have hsi' : s[i] = 125 := hsi
      have HR : Hid (RefIs s (s.extract 0 i) ByteArray.empty ((i : Int) + 1)) := Or.inr (Or.inl ⟨i, hlt, hno, hc, rfl, rfl, rfl⟩)
      clear hno hi hc hsi
      go_enter Try.func24, Try.ntmps24
      go_wp2_with (go_at_call 28; refine (ia_any s _ hs).mono ?_; rintro e w1 ⟨rfl, hb⟩)
      go_ret3
      exact ⟨_, _, _, rfl, HR.out, hb⟩
    · rw [hc] at hsi
      have hsi' : s[i] = 58 := hsi
      have htk : ∀ k : Nat, List.take (s.size - k) (List.drop k s.data.toList) = (bl s).drop k := fun k => List.take_of_length_le (by rw [List.length_drop]; have := len_bl s; unfold bl at this; omega)
      cases hpre : Lib.hasPrefix (List.take (s.size - i) (List.drop i s.data.toList)) [58, 45]
      · have HR : Hid (RefIs s ByteArray.empty ByteArray.empty (-1)) := by
          refine Or.inr (Or.inr (Or.inl ⟨i, hlt, hno, hc, ?_, rfl, rfl, rfl⟩))
          intro h45
          rw [htk, (pre_iff (bl s) i hc).2 h45] at hpre
          cases hpre
        clear hno hi hc hsi htk
        go_enter Try.func24, Try.ntmps24
        go_wp2_with (first | (go_at_call 28; refine (ia_any s _ hs).mono ?_; rintro e w1 ⟨rfl, hb⟩) | (go_at_call 29; refine (Try.strings_HasPrefix _ _ _).mono ?_; rintro e w2 ⟨rfl, rfl⟩))
        go_ret3
        exact ⟨_, _, _, rfl, HR.out, hb⟩
      · have h45 : (bl s)[i + 1]? = some 45 := by
          have h := hpre
          rw [htk] at h
          exact (pre_iff (bl s) i hc).1 h
        have h2 : i + 1 < s.size := by
          have := (List.getElem?_eq_some_iff.1 h45).1
          rw [len_bl] at this
          exact this
        rcases ib_cases ((bl s).drop (i + 2)) 125 with ⟨hib, hnone⟩ | ⟨j, hib, hj, hfirst⟩
        · have HR : Hid (RefIs s ByteArray.empty ByteArray.empty (-1)) := by
            refine Or.inr (Or.inr (Or.inr (Or.inl ⟨i, h2, hno, hc, h45, ?_, rfl, rfl, rfl⟩)))
            intro k hk h
            have := hnone (k - (i + 2))
            rw [List.getElem?_drop, show i + 2 + (k - (i + 2)) = k from by omega] at this
            exact this h
          rw [← htk] at hib
          clear hno hi hc hsi htk h45 hnone
          go_enter Try.func24, Try.ntmps24
          go_wp2_with (first | (go_at_call 28; refine (ia_any s _ hs).mono ?_; rintro e w1 ⟨rfl, hb⟩) | (go_at_call 29; refine (Try.strings_HasPrefix _ _ _).mono ?_; rintro e w2 ⟨rfl, rfl⟩) | (go_at_call 30; refine (Try.strings_IndexByte _ _ _).mono ?_; rintro e w2 ⟨rfl, rfl⟩))
          go_ret3
          exact ⟨_, _, _, rfl, HR.out, hb⟩
        · rw [List.getElem?_drop] at hj
          have hjs : i + 2 + j < s.size := by
            have := (List.getElem?_eq_some_iff.1 hj).1
            rw [len_bl] at this
            exact this
          have HR : Hid (RefIs s (s.extract 0 i) (s.extract (i + 2) (i + 2 + j)) (((i + 2 + j : Nat) : Int) + 1)) := by
            refine Or.inr (Or.inr (Or.inr (Or.inr ⟨i, i + 2 + j, by omega, hjs, hno, hc, h45, ?_, hj, rfl, rfl, rfl⟩)))
            intro k hk1 hk2 h
            have := hfirst (k - (i + 2)) (by omega)
            rw [List.getElem?_drop, show i + 2 + (k - (i + 2)) = k from by omega] at this
            exact this h
          rw [← htk] at hib
          clear hno hi hc hsi htk h45 hfirst hj
          go_enter Try.func24, Try.ntmps24
          go_wp2_with (first | (go_at_call 28; refine (ia_any s _ hs).mono ?_; rintro e w1 ⟨rfl, hb⟩) | (go_at_call 29; refine (Try.strings_HasPrefix _ _ _).mono ?_; rintro e w2 ⟨rfl, rfl⟩) | (go_at_call 30; refine (Try.strings_IndexByte _ _ _).mono ?_; rintro e w2 ⟨rfl, rfl⟩))
          go_quiet (fail)
          go_wp2
          go_ret3
          have e1 := ext_ext s (i + 2) j (by omega)
          have e2 : ((s.size : Int) - ((s.size - (i + 2) : Nat) : Int) + (j : Int) + 1) = ((i + 2 + j : Nat) : Int) + 1 := by omega
          exact ⟨_, _, _, rfl, by rw [e1, e2]; exact HR.out, below_drewN hb _⟩

set_option maxHeartbeats 400000 in
theorem zz_ref (s : ByteArray) (w : World) (hs : s.size ≤ 4000000) : Calls Try.prog 17 #[.string s] w fun e w' => RefOk s w e w' := by
  have H : Hid (Calls Try.prog 24 #[.string s] w fun e w' => RefOk s w e w') := ref_any s w hs
  go_enter Try.func17, Try.ntmps17
  go_wp2_with fail
  refine (Hid.out H : Calls _ _ _ _ _).mono ?_
  rintro e w' ⟨a, b, n, rfl, hr, hb⟩
  have HR : Hid (RefIs s a b n) := hr
  clear hr
  go_wp2
  go_ret3
  exact ⟨a, b, n, rfl, HR.out, hb⟩
end Go.Proofs.Qxb6603439a
