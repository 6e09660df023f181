/-
  THE LAW's WALK: FnReferenceReadsBackWhatWasWritten (7).
-/
import Derived.Test.Qxb6603439aClosed
import Derived.Laws.Concat
namespace Go.Proofs.Qxb6603439a
open Go.RowKit
namespace Rb

theorem bl_append (a b : ByteArray) : bl (a ++ b) = bl a ++ bl b := by
  unfold bl
  rw [ByteArray.data_append, Array.toList_append]

theorem sz_append (a b : ByteArray) : (a ++ b).size = a.size + b.size := by simp

/-- the first place of one of the two bytes is one -/
theorem first_one {l : List UInt8} {i j : Nat} {x y : UInt8} (hi : Lib.NoAny l [125, 58] i) (hx : l[i]? = some x) (cx : ([125, 58] : List UInt8).contains x = true) (hj : Lib.NoAny l [125, 58] j) (hy : l[j]? = some y) (cy : ([125, 58] : List UInt8).contains y = true) : i = j := by
  rcases Nat.lt_trichotomy i j with h | h | h
  · have := hj i x h hx
    rw [cx] at this; cases this
  · exact h
  · have := hi j y h hy
    rw [cy] at this; cases this

theorem noAny_name {l r : List UInt8} (h1 : Lib.indexByte l 125 < 0) (h2 : Lib.indexByte l 58 < 0) : Lib.NoAny (l ++ r) [125, 58] l.length := by
  intro j b hj hb
  rw [List.getElem?_append_left hj] at hb
  have g1 := Lib.indexByte_ge l 125
  have g2 := Lib.indexByte_ge l 58
  have n1 := Lib.indexByte_none (show Lib.indexByte l 125 = -1 by omega) j
  have n2 := Lib.indexByte_none (show Lib.indexByte l 58 = -1 by omega) j
  rw [Bool.eq_false_iff]
  intro hc
  simp only [List.contains_cons, List.contains_nil, Bool.or_false, Bool.or_eq_true, beq_iff_eq] at hc
  rcases hc with rfl | rfl
  · exact n1 hb
  · exact n2 hb

theorem ext_pre (s n : ByteArray) (r : List UInt8) (h : bl s = bl n ++ r) : s.extract 0 n.size = n := by
  apply WideShapes.bytes_inj
  rw [Lib.extract_data, List.drop_zero, Nat.sub_zero]
  show (bl s).take n.size = bl n
  rw [h, ← len_bl n, List.take_left]

theorem ext_mid (s d : ByteArray) (p r : List UInt8) (k : Nat) (h : bl s = p ++ (bl d ++ r)) (hk : p.length = k) : s.extract k (k + d.size) = d := by
  apply WideShapes.bytes_inj
  rw [Lib.extract_data, show k + d.size - k = d.size from by omega]
  show ((bl s).drop k).take d.size = bl d
  rw [h, ← hk, List.drop_left, ← len_bl d, List.take_left]

/-- with a default -/
theorem back_def {s name dfl : ByteArray} {rest : List UInt8} (hs : bl s = bl name ++ (58 :: 45 :: (bl dfl ++ (125 :: rest)))) (h1 : Lib.indexByte (bl name) 125 < 0) (h2 : Lib.indexByte (bl name) 58 < 0) (h3 : Lib.indexByte (bl dfl) 125 < 0)
    {a b : ByteArray} {n : Int} (h : RefIs s a b n) : a = name ∧ b = dfl ∧ n = (name.size : Int) + (dfl.size : Int) + 3 := by
  have hno : Lib.NoAny (bl s) [125, 58] name.size := by rw [hs, ← len_bl name]; exact noAny_name h1 h2
  have l1 : (bl name).length = name.size := len_bl name
  have l2 : (bl dfl).length = dfl.size := len_bl dfl
  have a0 : (bl s)[name.size]? = some 58 := by
    rw [hs, List.getElem?_append_right (by omega), show name.size - (bl name).length = 0 from by omega]; rfl
  have a1 : (bl s)[name.size + 1]? = some 45 := by
    rw [hs, List.getElem?_append_right (by omega), show name.size + 1 - (bl name).length = 1 from by omega]; rfl
  have hs' : bl s = (bl name ++ [58, 45]) ++ (bl dfl ++ (125 :: rest)) := by rw [hs]; simp
  have lp : (bl name ++ [58, 45]).length = name.size + 2 := by simp [l1]
  have a2 : (bl s)[name.size + 2 + dfl.size]? = some 125 := by
    rw [hs', List.getElem?_append_right (by omega), List.getElem?_append_right (by omega), lp, l2, show name.size + 2 + dfl.size - (name.size + 2) - dfl.size = 0 from by omega]; rfl
  have a3 : ∀ k, name.size + 2 ≤ k → k < name.size + 2 + dfl.size → (bl s)[k]? ≠ some 125 := by
    intro k hk1 hk2 e
    rw [hs', List.getElem?_append_right (by omega), List.getElem?_append_left (by omega)] at e
    have g := Lib.indexByte_ge (bl dfl) 125
    exact Lib.indexByte_none (show Lib.indexByte (bl dfl) 125 = -1 by omega) _ e
  have sz : name.size < s.size := Rf.lt_of_at a0
  rcases h with ⟨hno', _⟩ | ⟨i, hlt, hno', hc, ha, hb, hn⟩ | ⟨i, hlt, hno', hc, h45, ha, hb, hn⟩ | ⟨i, hlt, hno', hc, h45, hnone, ha, hb, hn⟩ | ⟨i, j, hij, hlt, hno', hc, h45, hfirst, hj, ha, hb, hn⟩
  · have := hno' _ _ sz a0
    exact absurd this (by decide)
  · obtain rfl := first_one hno' hc (by decide) hno a0 (by decide)
    rw [a0] at hc
    exact absurd hc (by decide)
  · obtain rfl := first_one hno' hc (by decide) hno a0 (by decide)
    exact absurd a1 h45
  · obtain rfl := first_one hno' hc (by decide) hno a0 (by decide)
    exact absurd a2 (hnone _ (by omega))
  · obtain rfl := first_one hno' hc (by decide) hno a0 (by decide)
    obtain rfl : j = name.size + 2 + dfl.size := by
      rcases Nat.lt_trichotomy j (name.size + 2 + dfl.size) with h | h | h
      · exact absurd hj (a3 j hij h)
      · exact h
      · exact absurd a2 (hfirst _ (by omega) h)
    refine ⟨by rw [ha]; exact ext_pre s name _ hs, by rw [hb]; exact ext_mid s dfl _ _ _ hs' lp, by rw [hn]; omega⟩

/-- without -/
theorem back_plain {s name : ByteArray} {rest : List UInt8} (hs : bl s = bl name ++ (125 :: rest)) (h1 : Lib.indexByte (bl name) 125 < 0) (h2 : Lib.indexByte (bl name) 58 < 0)
    {a b : ByteArray} {n : Int} (h : RefIs s a b n) : a = name ∧ b = ByteArray.empty ∧ n = (name.size : Int) + 1 := by
  have hno : Lib.NoAny (bl s) [125, 58] name.size := by rw [hs, ← len_bl name]; exact noAny_name h1 h2
  have l1 : (bl name).length = name.size := len_bl name
  have a0 : (bl s)[name.size]? = some 125 := by
    rw [hs, List.getElem?_append_right (by omega), show name.size - (bl name).length = 0 from by omega]; rfl
  have sz : name.size < s.size := Rf.lt_of_at a0
  rcases h with ⟨hno', _⟩ | ⟨i, hlt, hno', hc, ha, hb, hn⟩ | ⟨i, hlt, hno', hc, h45, ha, hb, hn⟩ | ⟨i, hlt, hno', hc, h45, hnone, ha, hb, hn⟩ | ⟨i, j, hij, hlt, hno', hc, h45, hfirst, hj, ha, hb, hn⟩
  · have := hno' _ _ sz a0
    exact absurd this (by decide)
  · obtain rfl := first_one hno' hc (by decide) hno a0 (by decide)
    exact ⟨by rw [ha]; exact ext_pre s name _ hs, hb, hn⟩
  all_goals
    obtain rfl := first_one hno' hc (by decide) hno a0 (by decide)
    rw [a0] at hc
    exact absurd hc (by decide)

set_option maxHeartbeats 400000 in
theorem bytes19 (a b c : ByteArray) (d : Bool) (w : World) (h1 : a.size ≤ maxLen) (h2 : b.size ≤ maxLen) (h3 : c.size ≤ maxLen) :
    Calls Try.prog 19 #[.string a, .string b, .string c, .bool d] w fun en w' => Rf.SomeBool en ∧ w' = w := by
  unfold maxLen at h1 h2 h3
  go_enter Try.func19, Try.ntmps19
  go_wp2
  all_goals
    go_ret
    exact ⟨⟨_, rfl⟩, rfl⟩

set_option maxHeartbeats 2000000 in
set_option maxRecDepth 100000 in
theorem back_walk (a b c : ByteArray) (d : Bool) (w : World) (h1 : a.size ≤ maxLen) (h2 : b.size ≤ maxLen) (h3 : c.size ≤ maxLen) :
    Calls Try.prog 7 #[.string a, .string b, .string c, .bool d] w fun en w' => Rf.TrueBelow w en w' := by
  have H1 : Hid (a.size ≤ maxLen) := h1
  have H2 : Hid (b.size ≤ maxLen) := h2
  have H3 : Hid (c.size ≤ maxLen) := h3
  unfold maxLen at h1 h2 h3
  go_enter Try.func7, Try.ntmps7
  go_wp2_with fail
  refine (bytes19 _ _ _ _ _ H1.out H2.out H3.out).mono ?_
  rintro en w' ⟨⟨ok0, rfl⟩, rfl⟩
  cases ok0
  · go_wp2
    go_ret
    exact ⟨rfl, Below.refl _ _⟩
  clear H1 H2 H3
  by_cases ha : 262144 < (a.size : Int)
  · have hd : decide ((262144 : Int) < (a.size : Int)) = true := decide_eq_true ha
    go_wp2
    go_ret
    exact ⟨rfl, Below.refl _ _⟩
  have hd1 : decide ((262144 : Int) < (a.size : Int)) = false := decide_eq_false ha
  by_cases hb : 262144 < (b.size : Int)
  · have hd : decide ((262144 : Int) < (b.size : Int)) = true := decide_eq_true hb
    go_wp2
    go_ret
    exact ⟨rfl, Below.refl _ _⟩
  have hd2 : decide ((262144 : Int) < (b.size : Int)) = false := decide_eq_false hb
  by_cases hc : 262144 < (c.size : Int)
  · have hd : decide ((262144 : Int) < (c.size : Int)) = true := decide_eq_true hc
    go_wp2
    go_ret
    exact ⟨rfl, Below.refl _ _⟩
  have hd3 : decide ((262144 : Int) < (c.size : Int)) = false := decide_eq_false hc
  -- the name's two looks
  go_wp2_with fail
  refine (Rf.zzib125 a _ (by omega)).mono ?_
  rintro en w' ⟨rfl, rfl⟩
  generalize hj1 : Lib.indexByte (bl a) 125 = j1
  have HJ1 : Hid (Lib.indexByte (bl a) 125 = j1) := hj1
  clear hj1
  by_cases n1 : 0 ≤ j1
  · have hd : decide (0 ≤ j1) = true := decide_eq_true n1
    go_wp2
    go_ret
    exact ⟨rfl, Below.refl _ _⟩
  have hd4 : decide (0 ≤ j1) = false := decide_eq_false n1
  go_wp2_with fail
  refine (Rf.zzib58 a _ (by omega)).mono ?_
  rintro en w' ⟨rfl, rfl⟩
  generalize hj2 : Lib.indexByte (bl a) 58 = j2
  have HJ2 : Hid (Lib.indexByte (bl a) 58 = j2) := hj2
  clear hj2
  by_cases n2 : 0 ≤ j2
  · have hd : decide (0 ≤ j2) = true := decide_eq_true n2
    go_wp2
    go_ret
    exact ⟨rfl, Below.refl _ _⟩
  have hd5 : decide (0 ≤ j2) = false := decide_eq_false n2
  have P1 : Hid (Lib.indexByte (bl a) 125 < 0) := by show _ < _; rw [HJ1.out]; omega
  have P2 : Hid (Lib.indexByte (bl a) 58 < 0) := by show _ < _; rw [HJ2.out]; omega
  cases d
  · obtain ⟨s1, hs1⟩ : ∃ s1, a ++ (⟨#[125]⟩ : ByteArray) = s1 := ⟨_, rfl⟩
    obtain ⟨s2, hs2⟩ : ∃ s2, s1 ++ c = s2 := ⟨_, rfl⟩
    have z1 : s1.size = a.size + 1 := by rw [← hs1, sz_append]; rfl
    have z2 : s2.size = a.size + 1 + c.size := by rw [← hs2, sz_append, z1]
    have hadd1 : ∀ w, (Op.stringOp .add a ⟨#[125]⟩).run Try.prog w = .ok (.string s1) w := fun w => by rw [← hs1]; exact run_string_add_sum w _ _ (by show a.size + 1 ≤ _; omega)
    have hadd2 : ∀ w, (Op.stringOp .add s1 c).run Try.prog w = .ok (.string s2) w := fun w => by rw [← hs2]; exact run_string_add_sum w _ _ (by omega)
    have HS : Hid (bl s2 = bl a ++ (125 :: bl c)) := by
      show _ = _
      rw [← hs2, ← hs1, bl_append, bl_append, List.append_assoc]
      rfl
    have hz : s2.size ≤ 4000000 := by omega
    clear hs1 hs2 z1 z2
    go_wp2_with fail
    refine (zz_ref s2 _ hz).mono ?_
    rintro en w1 ⟨x, y, n, rfl, hr, hbl⟩
    obtain ⟨rfl, rfl, rfl⟩ := back_plain HS.out P1.out P2.out hr
    clear hr
    go_wp2
    go_ret
    refine ⟨?_, hbl⟩
    simp
  · go_wp2_with fail
    refine (Rf.zzib125 b _ (by omega)).mono ?_
    rintro en w' ⟨rfl, rfl⟩
    generalize hj3 : Lib.indexByte (bl b) 125 = j3
    have HJ3 : Hid (Lib.indexByte (bl b) 125 = j3) := hj3
    clear hj3
    by_cases n3 : 0 ≤ j3
    · have hd : decide (0 ≤ j3) = true := decide_eq_true n3
      go_wp2
      go_ret
      exact ⟨rfl, Below.refl _ _⟩
    have hd6 : decide (0 ≤ j3) = false := decide_eq_false n3
    have P3 : Hid (Lib.indexByte (bl b) 125 < 0) := by show _ < _; rw [HJ3.out]; omega
    obtain ⟨s1, hs1⟩ : ∃ s1, a ++ (⟨#[58, 45]⟩ : ByteArray) = s1 := ⟨_, rfl⟩
    obtain ⟨s2, hs2⟩ : ∃ s2, s1 ++ b = s2 := ⟨_, rfl⟩
    obtain ⟨s3, hs3⟩ : ∃ s3, s2 ++ (⟨#[125]⟩ : ByteArray) = s3 := ⟨_, rfl⟩
    obtain ⟨s4, hs4⟩ : ∃ s4, s3 ++ c = s4 := ⟨_, rfl⟩
    have z1 : s1.size = a.size + 2 := by rw [← hs1, sz_append]; rfl
    have z2 : s2.size = a.size + 2 + b.size := by rw [← hs2, sz_append, z1]
    have z3 : s3.size = a.size + 2 + b.size + 1 := by rw [← hs3, sz_append, z2]; rfl
    have z4 : s4.size = a.size + 2 + b.size + 1 + c.size := by rw [← hs4, sz_append, z3]
    have hadd1 : ∀ w, (Op.stringOp .add a ⟨#[58, 45]⟩).run Try.prog w = .ok (.string s1) w := fun w => by rw [← hs1]; exact run_string_add_sum w _ _ (by show a.size + 2 ≤ _; omega)
    have hadd2 : ∀ w, (Op.stringOp .add s1 b).run Try.prog w = .ok (.string s2) w := fun w => by rw [← hs2]; exact run_string_add_sum w _ _ (by omega)
    have hadd3 : ∀ w, (Op.stringOp .add s2 ⟨#[125]⟩).run Try.prog w = .ok (.string s3) w := fun w => by rw [← hs3]; exact run_string_add_sum w _ _ (by show s2.size + 1 ≤ _; omega)
    have hadd4 : ∀ w, (Op.stringOp .add s3 c).run Try.prog w = .ok (.string s4) w := fun w => by rw [← hs4]; exact run_string_add_sum w _ _ (by omega)
    have HS : Hid (bl s4 = bl a ++ (58 :: 45 :: (bl b ++ (125 :: bl c)))) := by
      show _ = _
      rw [← hs4, ← hs3, ← hs2, ← hs1, bl_append, bl_append, bl_append, bl_append]
      simp only [List.append_assoc]
      rfl
    have hz : s4.size ≤ 4000000 := by omega
    clear hs1 hs2 hs3 hs4 z1 z2 z3 z4
    go_wp2_with fail
    refine (zz_ref s4 _ hz).mono ?_
    rintro en w1 ⟨x, y, n, rfl, hr, hbl⟩
    obtain ⟨rfl, rfl, rfl⟩ := back_def HS.out P1.out P2.out P3.out hr
    clear hr
    go_wp2
    go_ret
    refine ⟨?_, hbl⟩
    simp
end Rb
end Go.Proofs.Qxb6603439a
