/-
  THE LAW's WALK: FnUnescapeMatchesModel (3).
-/
import Derived.Test.Qxb6603439aModel
namespace Go.Proofs.Qxb6603439a
open Go.RowKit
namespace Md

set_option maxHeartbeats 400000 in
theorem bytes9 (s e : ByteArray) (w : World) (h1 : s.size ≤ maxLen) (h2 : e.size ≤ maxLen) :
    Calls Try.prog 9 #[.string s, .string e] w fun en w' => SomeBool en ∧ w' = w := by
  unfold maxLen at h1 h2
  go_enter Try.func9, Try.ntmps9
  go_wp2
  all_goals
    go_ret
    exact ⟨⟨_, rfl⟩, rfl⟩

set_option maxHeartbeats 1000000 in
set_option maxRecDepth 100000 in
theorem agree_walk (s e : ByteArray) (w : World) (h1 : s.size ≤ maxLen) (h2 : e.size ≤ maxLen) :
    Calls Try.prog 3 #[.string s, .string e] w fun en w' => TrueBelow w en w' := by
  have H1 : Hid (s.size ≤ maxLen) := h1
  have H2 : Hid (e.size ≤ maxLen) := h2
  unfold maxLen at h1 h2
  go_enter Try.func3, Try.ntmps3
  go_wp2_with fail
  refine (bytes9 _ _ _ H1.out H2.out).mono ?_
  rintro en w' ⟨⟨ok0, rfl⟩, rfl⟩
  cases ok0
  · go_wp2
    go_ret
    exact ⟨rfl, Below.refl _ _⟩
  clear H1 H2
  by_cases hs : 1048576 < (s.size : Int)
  · have hd : decide ((1048576 : Int) < (s.size : Int)) = true := decide_eq_true hs
    go_wp2
    go_ret
    exact ⟨rfl, Below.refl _ _⟩
  have hd1 : decide ((1048576 : Int) < (s.size : Int)) = false := decide_eq_false hs
  by_cases he : 1048576 < (e.size : Int)
  · have hd : decide ((1048576 : Int) < (e.size : Int)) = true := decide_eq_true he
    go_wp2
    go_ret
    exact ⟨rfl, Below.refl _ _⟩
  have hd2 : decide ((1048576 : Int) < (e.size : Int)) = false := decide_eq_false he
  by_cases hse : 1048576 < (s.size : Int) + (e.size : Int)
  · have hd : decide ((1048576 : Int) < (s.size : Int) + (e.size : Int)) = true := decide_eq_true hse
    go_wp2
    go_ret
    exact ⟨rfl, Below.refl _ _⟩
  have hd3 : decide ((1048576 : Int) < (s.size : Int) + (e.size : Int)) = false := decide_eq_false hse
  go_wp2_with fail
  refine (zz_un s e _ (by omega)).mono ?_
  rintro en w1 ⟨rfl, hb1⟩
  obtain ⟨x, hx⟩ : ∃ x : ByteArray, (⟨(Ue.unesc (has e) (bl s)).toArray⟩ : ByteArray) = x := ⟨_, rfl⟩
  have HX : Hid ((⟨(Ue.unesc (has e) (bl s)).toArray⟩ : ByteArray) = x) := hx
  rw [hx]
  clear hx
  go_wp2_with fail
  refine (model_any s e _ (by omega) (by omega)).mono ?_
  rintro en w2 ⟨rfl, hb2⟩
  rw [HX.out]
  have HB : Hid (Below w'.heap.size w' w2) := hb1.trans (hb2.mono hb1.size)
  clear hb1 hb2
  go_wp2
  go_ret
  refine ⟨?_, HB.out⟩
  simp
end Md
end Go.Proofs.Qxb6603439a
