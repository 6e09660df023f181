/-
  WALKS: copyPartsMB1 (11).
-/
import Derived.Test.Qxb6603290aAdd
import Derived.Deep.OwnRows
import Derived.Lib.SliceRun
import Derived.WalkSpells
import Derived.Outline
namespace Go.Proofs.Qxb6603290a
open Go.RowKit

theorem info9 : (Try.prog.info? 9).map (fun i => (i.zero, i.size, i.bytes)) = some (some (.string ByteArray.empty), 1, 16) := by kernel_rfl

/-- what copyPartsMB1 answers: the same strings in a block of its own, or in none -/
def CopyOk (ss : List ByteArray) (w : World) (e : Ending) (w' : World) : Prop :=
  ∃ ao cap, e = .returned (.slice ao ss.length cap) ∧ ss.length ≤ cap ∧ Strs w' ao ss ∧ Below w.heap.size w w' ∧ (0 < ss.length → ∃ b, ao = some ⟨b, 0, none⟩ ∧ w.heap.size ≤ b)

/-- after k stores -/
def part (ss : List ByteArray) (k : Nat) : Nat → Value := fun j => if j < k then .string (ss.getD j ByteArray.empty) else .string ByteArray.empty

theorem row_step {w : World} {B n k : Nat} {ss : List ByteArray} (h : w.rowIs B 9 n (part ss k)) : (w.setCell ⟨B, k, none⟩ (.string (ss.getD k ByteArray.empty))).rowIs B 9 n (part ss (k + 1)) := by
  refine (h.set k _).congr fun i _ => ?_
  unfold part
  by_cases e : i = k
  · subst e; simp
  · simp only [if_neg e]
    by_cases l : i < k
    · rw [if_pos l, if_pos (by omega)]
    · rw [if_neg l, if_neg (by omega)]

set_option maxHeartbeats 400000 in
theorem copy_any (ao : Option Addr) (cap : Nat) (ss : List ByteArray) (w : World) (hn : ss.length ≤ 65536) (hS : Strs w ao ss) :
    Calls Try.prog 11 #[.slice ao ss.length cap] w fun e w' => CopyOk ss w e w' := by
  have heq := fun w => Lib.run_eql_slice_nil (P := Try.prog) w 22 9 ao ss.length cap 0 0 Try.underlying22
  cases ao with
  | none =>
    have h0 : ss = [] := by
      rcases Nat.eq_zero_or_pos ss.length with h | h
      · exact List.eq_nil_of_length_eq_zero h
      · obtain ⟨b, off, e, _⟩ := hS.2.2 h; cases e
    subst h0
    clear heq
    have heq := fun w => Lib.run_eql_slice_nil (P := Try.prog) w 22 9 none 0 cap 0 0 Try.underlying22
    show Calls Try.prog 11 #[.slice none 0 cap] w fun e w' => CopyOk [] w e w'
    go_enter Try.func11, Try.ntmps11
    go_wp2
    go_ret
    exact ⟨none, 0, rfl, Nat.le_refl _, hS, Below.refl _ _, by simp⟩
  | some a =>
    have hmk := run_make_row' (P := Try.prog) 22 9 (.string ByteArray.empty) 16 Try.underlying22 info9 rfl .i64 .i64 ss.length (by omega) (by omega)
    obtain ⟨h1, h2, h3⟩ := hS
    have HC : Hid _ := h3
    have H2 : Hid _ := h2
    unfold maxLen at h1
    clear h2 h3
    go_enter Try.func11, Try.ntmps11
    go_wp2
    clear hmk heq
    go_loopw [4] (fun i wr => ∃ k : Nat, k ≤ ss.length ∧ i = .int .i64 k ∧ wr.rowIs w.heap.size 9 ss.length (part ss k) ∧ Below w.heap.size w wr) (fun i _ => ss.length - (intOf i).toNat)
    case atStart => exact ⟨0, Nat.zero_le _, rfl, (World.rowIs_made w _ _ 9).congr (fun i _ => by simp [part]), (Below.refl _ _).alloc (Nat.le_refl _) _⟩
    case round =>
      obtain ⟨k, hk, rfl, hrow, hb⟩ := hrel
      by_cases hlt : k < ss.length
      · obtain ⟨b, off, e, hlb, hc⟩ := HC.out (by omega)
        simp only [Option.some.injEq] at e
        subst e
        have hcell := (hb.cell (p := ⟨b, off + k, none⟩) hlb).trans (hc k hlt)
        have hold := hrow.cell hlt
        have hfr := hrow.frozen k
        have hnew := row_step hrow
        have hb' := hb.setCell (p := ⟨w.heap.size, k, none⟩) (Nat.le_refl _) (.string (ss.getD k ByteArray.empty))
        have HN : Hid ((wr.setCell ⟨w.heap.size, k, none⟩ (.string (ss.getD k ByteArray.empty))).rowIs w.heap.size 9 ss.length (part ss (k + 1))) := hnew
        have HB : Hid (Below w.heap.size w (wr.setCell ⟨w.heap.size, k, none⟩ (.string (ss.getD k ByteArray.empty)))) := hb'
        clear hc hnew hb' hrow hb HC H2
        generalize ss.getD k ByteArray.empty = pk at *
        go_wp2
        go_roundw
        case rel => exact ⟨k + 1, by omega, by go_num, HN.out, HB.out⟩
        case measure => simp [intOf]; omega
      · clear HC
        go_wp2
        go_ret
        have : k = ss.length := by omega
        subst this
        refine ⟨some ⟨w.heap.size, 0, none⟩, ss.length, rfl, Nat.le_refl _, ⟨by unfold maxLen; omega, H2.out, fun _ => ⟨w.heap.size, 0, rfl, hrow.lt, fun i hi => ?_⟩⟩, hb, fun _ => ⟨_, rfl, Nat.le_refl _⟩⟩
        have := hrow.cell hi
        rw [Nat.zero_add, this]
        simp [part, hi]
end Go.Proofs.Qxb6603290a
