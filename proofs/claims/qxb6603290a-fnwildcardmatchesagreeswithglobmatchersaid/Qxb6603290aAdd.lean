/-
  WALKS: addPartsMB1 (9): for whatever slice of strings.
-/
import Derived.Test.Qxb6603290aChecked
import Derived.WalkKit
import Derived.WalkLawsBesides
namespace Go.Proofs.Qxb6603290a
open Go.RowKit

/-- the slice value v reads as the strings ss in w; where there is one, at a plain address in a block that is there -/
def Strs (w : World) (ao : Option Addr) (ss : List ByteArray) : Prop :=
  ss.length ≤ maxLen ∧ (∀ i, (ss.getD i ByteArray.empty).size ≤ maxLen) ∧
  (0 < ss.length → ∃ b off, ao = some ⟨b, off, none⟩ ∧ b < w.heap.size ∧ ∀ i, i < ss.length → w.cell? ⟨b, off + i, none⟩ = some (.string (ss.getD i ByteArray.empty)))

theorem Strs.later {w w' : World} {ao : Option Addr} {ss : List ByteArray} (h : Strs w ao ss) (hb : Below w.heap.size w w') : Strs w' ao ss := by
  refine ⟨h.1, h.2.1, fun h0 => ?_⟩
  obtain ⟨b, off, e, hlt, hc⟩ := h.2.2 h0
  refine ⟨b, off, e, Nat.lt_of_lt_of_le hlt hb.size, fun i hi => ?_⟩
  rw [← hc i hi]
  exact hb.cell (p := ⟨b, off + i, none⟩) hlt

/-- the sum of the lengths -/
def sumLen (ss : List ByteArray) : Nat := (ss.map ByteArray.size).sum

theorem sumLen_take (ss : List ByteArray) (k : Nat) (h : k < ss.length) : sumLen (ss.take (k + 1)) = sumLen (ss.take k) + (ss.getD k ByteArray.empty).size := by
  unfold sumLen
  rw [List.take_succ_eq_append_getElem h]
  rw [List.map_append, List.sum_append, List.getD_eq_getElem?_getD, List.getElem?_eq_getElem h]
  rfl

theorem sumLen_take_le (ss : List ByteArray) (k : Nat) : sumLen (ss.take k) ≤ sumLen ss := by
  unfold sumLen
  conv => rhs; rw [← List.take_append_drop k ss]
  rw [List.map_append, List.sum_append]
  exact Nat.le_add_right _ _

/-- what addPartsMB1 answers -/
def AddOk (ss : List ByteArray) (e : Ending) : Prop := ∃ (t' : Int) (ok : Bool), e = .returned (.tuple #[.int .i64 t', .bool ok]) ∧ (ok = true → ss.length ≤ 65536 ∧ 0 ≤ t' ∧ t' ≤ 1048576 ∧ sumLen ss ≤ 1048576)

set_option maxHeartbeats 400000 in
theorem add_any (t : Int) (ao : Option Addr) (cap : Nat) (ss : List ByteArray) (w : World) (h0 : 0 ≤ t) (h1 : t ≤ 1048576) (hS : Strs w ao ss) :
    Calls Try.prog 9 #[.int .i64 t, .slice ao ss.length cap] w fun e w' => AddOk ss e ∧ w' = w := by
  obtain ⟨hn, hsz, hc⟩ := hS
  unfold maxLen at hn
  by_cases hbig : 65536 < (ss.length : Int)
  · clear hc
    go_enter Try.func9, Try.ntmps9
    go_wp2
    go_ret2
    exact ⟨⟨_, _, rfl, by simp⟩, rfl⟩
  · have HC := (show Hid _ from hc)
    clear hc
    go_enter Try.func9, Try.ntmps9
    go_wp2
    go_loop [0, 6] (fun a i => ∃ (k : Nat) (x : Int), k ≤ ss.length ∧ i = .int .i64 k ∧ a = .int .i64 x ∧ 0 ≤ x ∧ x ≤ 1048576 ∧ (sumLen (ss.take k) : Int) ≤ x) (fun _ i => ss.length - (intOf i).toNat)
    case atStart => exact ⟨0, t, Nat.zero_le _, rfl, rfl, h0, h1, by simpa [sumLen] using h0⟩
    case round =>
      obtain ⟨k, x, hk, rfl, rfl, hx0, hx1, hs⟩ := hrel
      by_cases hlt : k < ss.length
      · obtain ⟨b, off, rfl, _, hc⟩ := HC.out (by omega)
        have hcell := hc k hlt
        have HS : Hid (sumLen (ss.take (k + 1)) = sumLen (ss.take k) + (ss.getD k ByteArray.empty).size) := sumLen_take ss k hlt
        have hz := hsz k
        clear hc hsz HC
        generalize hg : ss.getD k ByteArray.empty = sk at *
        clear hg
        unfold maxLen at hz
        go_wp2
        · go_ret2
          exact ⟨⟨_, _, rfl, by simp⟩, rfl⟩
        · go_ret2
          exact ⟨⟨_, _, rfl, by simp⟩, rfl⟩
        · go_round
          case rel => exact ⟨k + 1, _, by omega, by go_num, rfl, by omega, by omega, by have := HS.out; omega⟩
          case measure => simp [intOf]; omega
      · go_wp2
        go_ret2
        have : k = ss.length := by omega
        subst this
        refine ⟨⟨_, _, rfl, fun _ => ⟨by omega, hx0, hx1, ?_⟩⟩, rfl⟩
        rw [List.take_length] at hs
        omega

/-- what a bound on total length answers: some bool -/
def SomeBool (e : Ending) : Prop := ∃ b : Bool, e = .returned (.bool b)

set_option maxHeartbeats 800000 in
theorem bytes_any (ao ao2 : Option Addr) (cap cap2 : Nat) (ss ff : List ByteArray) (w : World) (hS : Strs w ao ss) (hF : Strs w ao2 ff) :
    Calls Try.prog 15 #[.slice ao ss.length cap, .slice ao2 ff.length cap2] w fun e w' => SomeBool e ∧ w' = w := by
  obtain ⟨hn, hsz, hc⟩ := hS
  obtain ⟨hn2, hsz2, hc2⟩ := hF
  unfold maxLen at hn hn2
  have HC := (show Hid _ from hc)
  have HC2 := (show Hid _ from hc2)
  clear hc hc2
  by_cases hbig : 1048576 < (ss.length : Int)
  · go_enter Try.func15, Try.ntmps15
    go_wp2
    go_ret
    exact ⟨⟨_, rfl⟩, rfl⟩
  go_enter Try.func15, Try.ntmps15
  go_wp2
  go_loop [5, 6] (fun a i => ∃ (k : Nat) (x : Int), k ≤ ss.length ∧ i = .int .i64 k ∧ a = .int .i64 x ∧ 0 ≤ x ∧ x ≤ 1048576) (fun _ i => ss.length - (intOf i).toNat)
  case atStart => exact ⟨0, _, Nat.zero_le _, rfl, rfl, by omega, by omega⟩
  case round =>
    obtain ⟨k, x, hk, rfl, rfl, hx0, hx1⟩ := hrel
    by_cases hlt : k < ss.length
    · obtain ⟨b, off, rfl, _, hc⟩ := HC.out (by omega)
      have hcell := hc k hlt
      have hz := hsz k
      clear hc hsz hsz2 HC HC2
      generalize hg : ss.getD k ByteArray.empty = sk at *
      clear hg
      unfold maxLen at hz
      go_wp2
      · go_ret
        exact ⟨⟨_, rfl⟩, rfl⟩
      · go_ret
        exact ⟨⟨_, rfl⟩, rfl⟩
      · go_round
        case rel => exact ⟨k + 1, _, by omega, by go_num, rfl, by omega, by omega⟩
        case measure => simp [intOf]; omega
    · clear hsz HC
      by_cases hbig2 : 1048576 < (ff.length : Int)
      · go_wp2
        go_ret
        exact ⟨⟨_, rfl⟩, rfl⟩
      by_cases hsum : 1048576 < x + (ff.length : Int)
      · go_wp2
        go_ret
        exact ⟨⟨_, rfl⟩, rfl⟩
      go_wp2
      go_loop [5, 7] (fun a i => ∃ (k : Nat) (x : Int), k ≤ ff.length ∧ i = .int .i64 k ∧ a = .int .i64 x ∧ 0 ≤ x ∧ x ≤ 1048576) (fun _ i => ff.length - (intOf i).toNat)
      case atStart => exact ⟨0, _, Nat.zero_le _, rfl, rfl, by omega, by omega⟩
      case round =>
        obtain ⟨j, y, hj, rfl, rfl, hy0, hy1⟩ := hrel
        by_cases hlt2 : j < ff.length
        · obtain ⟨b, off, rfl, _, hc⟩ := HC2.out (by omega)
          have hcell := hc j hlt2
          have hz := hsz2 j
          clear hc hsz2 HC2
          generalize hg : ff.getD j ByteArray.empty = sk at *
          clear hg
          unfold maxLen at hz
          go_wp2
          · go_ret
            exact ⟨⟨_, rfl⟩, rfl⟩
          · go_ret
            exact ⟨⟨_, rfl⟩, rfl⟩
          · go_round
            case rel => exact ⟨j + 1, _, by omega, by go_num, rfl, by omega, by omega⟩
            case measure => simp [intOf]; omega
        · go_wp2
          go_ret
          exact ⟨⟨_, rfl⟩, rfl⟩

end Go.Proofs.Qxb6603290a
