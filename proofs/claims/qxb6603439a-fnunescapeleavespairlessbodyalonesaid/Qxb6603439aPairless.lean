/-
  THE LAW's WALK: FnUnescapeLeavesPairlessBodyAlone (5).
-/
import Derived.Test.Qxb6603439aUn
import Derived.Test.Qxb6603439aSet
namespace Go.Proofs.Qxb6603439a
open Go.RowKit

/-- what a bound on total length answers: some bool -/
def SomeBool (e : Ending) : Prop := ∃ b : Bool, e = .returned (.bool b)

def TrueBelow (w : World) (e : Ending) (w' : World) : Prop := e = .returned (.bool true) ∧ Below w.heap.size w w'

theorem bl_at (s : ByteArray) (i : Nat) (h : i < s.size) : (bl s)[i]? = some s[i] := by
  unfold bl
  rw [Array.getElem?_toList, Array.getElem?_eq_getElem (by exact h)]
  rfl

set_option maxHeartbeats 400000 in
theorem bytes15 (s e : ByteArray) (w : World) (h1 : s.size ≤ maxLen) (h2 : e.size ≤ maxLen) :
    Calls Try.prog 15 #[.string s, .string e] w fun en w' => SomeBool en ∧ w' = w := by
  unfold maxLen at h1 h2
  go_enter Try.func15, Try.ntmps15
  go_wp2
  all_goals
    go_ret
    exact ⟨⟨_, rfl⟩, rfl⟩

set_option maxHeartbeats 1000000 in
set_option maxRecDepth 100000 in
theorem pairless_walk (s e : ByteArray) (w : World) (h1 : s.size ≤ maxLen) (h2 : e.size ≤ maxLen) :
    Calls Try.prog 5 #[.string s, .string e] w fun en w' => TrueBelow w en w' := by
  have H1 : Hid (s.size ≤ maxLen) := h1
  have H2 : Hid (e.size ≤ maxLen) := h2
  unfold maxLen at h1 h2
  go_enter Try.func5, Try.ntmps5
  go_wp2_with fail
  refine (bytes15 _ _ _ H1.out H2.out).mono ?_
  rintro en w' ⟨⟨ok0, rfl⟩, rfl⟩
  cases ok0
  · go_wp2
    go_ret
    exact ⟨rfl, Below.refl _ _⟩
  clear H1 H2
  by_cases hs : 1048576 < (s.size : Int)
  · have hd : decide ((1048576 : Int) < (s.size : Int)) = true := decide_eq_true hs
    go_wp2
    go_ret
    exact ⟨rfl, Below.refl _ _⟩
  have hd1 : decide ((1048576 : Int) < (s.size : Int)) = false := decide_eq_false hs
  by_cases he : 1048576 < (e.size : Int)
  · have hd : decide ((1048576 : Int) < (e.size : Int)) = true := decide_eq_true he
    go_wp2
    go_ret
    exact ⟨rfl, Below.refl _ _⟩
  have hd2 : decide ((1048576 : Int) < (e.size : Int)) = false := decide_eq_false he
  by_cases hse : 1048576 < (s.size : Int) + (e.size : Int)
  · have hd : decide ((1048576 : Int) < (s.size : Int) + (e.size : Int)) = true := decide_eq_true hse
    go_wp2
    go_ret
    exact ⟨rfl, Below.refl _ _⟩
  have hd3 : decide ((1048576 : Int) < (s.size : Int) + (e.size : Int)) = false := decide_eq_false hse
  go_wp2_with fail
  refine (set_any e _ (by omega)).mono ?_
  rintro en w1 ⟨rfl, hb1⟩
  have hzv := (zero_of_info info24).1
  have HB1 : Hid (Below w'.heap.size w' w1) := hb1
  have HSZ : Hid ((Lib.setCells e.data.toList).size = 256) := Lib.setCells_size _
  have HO : Hid ((Lib.setCells e.data.toList).all (·.oneCell') = true) := Lib.setCells_one _
  have HAT : Hid (∀ x : UInt8, (Lib.setCells e.data.toList)[x.toNat]? = some (.bool (has e x))) := fun x => Lib.setCells_at _ x
  generalize Lib.setCells e.data.toList = C at *
  clear hb1
  go_wp2_with (refine wpList_store_row rfl 24 (.tmp 5) (.tmp 28) rfl w1.heap.size C rfl rfl 24 _ (heap_alloc_new _ _) (by rw [HSZ.out]; exact size24) (by rw [Array.size_replicate, HSZ.out]) HO.out ?_)
  rw [World.setRow_alloc_new]
  have HCL : Hid (∀ x : UInt8, (w1.alloc (.cells C 24)).cell? ⟨w1.heap.size, x.toNat, none⟩ = some (.bool (has e x))) := fun x => by
    rw [cell_of_row _ _ _ _ _ _ (heap_alloc_new _ _)]
    exact HAT.out x
  have HB2 : Hid (Below w'.heap.size w' (w1.alloc (.cells C 24))) := HB1.out.alloc HB1.out.size _
  clear hzv HB1 HSZ HO HAT
  generalize w1.alloc (.cells C 24) = w2 at *
  go_loop [6] (fun i => ∃ k : Nat, k ≤ s.size ∧ i = .int .i64 k ∧ Hid (∀ j : Nat, j < k → (bl s)[j]? = some 92 → ∀ d, (bl s)[j + 1]? = some d → has e d = false)) (fun i => s.size - (intOf i).toNat)
  case atStart => exact ⟨0, Nat.zero_le _, rfl, fun j hj => absurd hj (Nat.not_lt_zero _)⟩
  case round =>
    obtain ⟨k, hk, rfl, HK⟩ := hrel
    by_cases hlt : k + 1 < s.size
    · have hlt0 : k < s.size := by omega
      have HS0 : Hid ((bl s)[k]? = some s[k]) := bl_at s k hlt0
      have HS1 : Hid ((bl s)[k + 1]? = some s[k + 1]) := bl_at s (k + 1) hlt
      have hcell := HCL.out s[k + 1]
      obtain ⟨c, hc⟩ : ∃ c, s[k] = c := ⟨_, rfl⟩
      obtain ⟨d, hd⟩ : ∃ d, s[k + 1] = d := ⟨_, rfl⟩
      rw [hc] at HS0
      rw [hd] at HS1 hcell
      have hx : (d.toNat : Int) < 256 := by have := UInt8.toNat_lt d; omega
      by_cases h92 : c = 92
      · subst h92
        cases hh : has e d
        · have HN : Hid (∀ j : Nat, j < k + 1 → (bl s)[j]? = some 92 → ∀ d, (bl s)[j + 1]? = some d → has e d = false) := by
            intro j hj h0 x h1
            by_cases hjk : j = k
            · subst hjk
              rw [HS1.out] at h1
              injection h1 with h1
              rw [← h1]; exact hh
            · exact HK.out j (by omega) h0 x h1
          rw [hh] at hcell
          clear HK HS0 HS1 hh HCL
          go_wp2
          go_round
          case rel => exact ⟨k + 1, by omega, by go_num, HN⟩
          case measure => simp [intOf]; omega
        · rw [hh] at hcell
          clear HK HS0 HS1 hh HCL
          go_wp2
          go_ret
          exact ⟨rfl, HB2.out⟩
      · have HN : Hid (∀ j : Nat, j < k + 1 → (bl s)[j]? = some 92 → ∀ d, (bl s)[j + 1]? = some d → has e d = false) := by
          intro j hj h0 x h1
          by_cases hjk : j = k
          · subst hjk
            rw [HS0.out] at h0
            injection h0 with h0
            exact absurd h0 h92
          · exact HK.out j (by omega) h0 x h1
        have hb : ((c.toNat : Int) == 92) = false := by
          rw [beq_eq_false_iff_ne]
          intro h
          exact h92 (UInt8.toNat_inj.1 (by simp; omega))
        clear HK HS0 HS1 HCL h92 hcell
        go_wp2
        go_round
        case rel => exact ⟨k + 1, by omega, by go_num, HN⟩
        case measure => simp [intOf]; omega
    · have HE : Hid (Ue.unesc (has e) (bl s) = bl s) := by
        refine Ue.unesc_pairless _ (fun i hi d hd => HK.out i ?_ hi d hd)
        have h3 := (List.getElem?_eq_some_iff.1 hd).1
        have h4 : (bl s).length = s.size := by simp [bl]
        omega
      clear HK HCL
      go_wp2_with fail
      refine (zz_un s e _ (by omega)).mono ?_
      rintro en w3 ⟨rfl, hb3⟩
      rw [HE.out]
      have HB3 : Hid (Below w'.heap.size w' w3) := HB2.out.trans (hb3.mono HB2.out.size)
      have hes : (⟨(bl s).toArray⟩ : ByteArray) = s := rfl
      rw [hes]
      clear hb3 hes
      go_wp2
      go_ret
      refine ⟨?_, HB3.out⟩
      simp
end Go.Proofs.Qxb6603439a
