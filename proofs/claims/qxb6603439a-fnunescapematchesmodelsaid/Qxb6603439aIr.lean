/-
  strings.IndexRune (33) at chars of two ASCII bytes and a rune from 128 on: -1.
-/
import Derived.Test.Qxb6603439aBld
import Derived.Laws.Runes
import Derived.Lib.OthersKept
import Derived.Lib.SpaceUEq
import Derived.BigQuiet
import Derived.Deep.QuietTactic
import Derived.Deep.LoopGhost
import Derived.WalkMore
namespace Go.Proofs.Qxb6603439a
open Go.RowKit

theorem valid_eq (r : Int) : Lib.validRune r = Utf8.valid r := by
  unfold Lib.validRune Utf8.valid
  rw [Bool.eq_iff_iff]
  simp
  omega

theorem cut_two (w : World) : (Instr.slice 9 (.string ⟨#[125, 58]⟩) (some (.int .i64 2)) none none).run Try.prog w = .ok (.string ⟨#[]⟩) w := by kernel_rfl

set_option maxHeartbeats 2000000 in
set_option maxRecDepth 100000 in
theorem ir_bad (r : Int) (w : World) (h0 : 128 ≤ r) (hne : r ≠ 65533) (hv : Lib.validRune r = false) :
    Calls Try.prog 33 #[.string ⟨#[125, 58]⟩, .int .i32 r] w fun e w' => e = .returned (.int .i64 (-1)) ∧ w' = w := by
  have hb : (r == 65533) = false := beq_eq_false_iff_ne.2 hne
  have hd1 : decide (r < 128) = false := decide_eq_false (by omega)
  have hd0 : decide (0 ≤ r) = true := decide_eq_true (by omega)
  clear hne
  go_enter Try.func33, Try.ntmps33
  go_wp2_with (go_at_call 41; refine (Try.utf8_ValidRune _ _).mono ?_; rintro e w' ⟨rfl, rfl⟩)
  go_ret
  exact ⟨rfl, rfl⟩

set_option maxHeartbeats 2000000 in
set_option maxRecDepth 100000 in
theorem ir_good (r : Int) (w : World) (h0 : 128 ≤ r) (hne : r ≠ 65533) (hv : Lib.validRune r = true) :
    Calls Try.prog 33 #[.string ⟨#[125, 58]⟩, .int .i32 r] w fun e w' => e = .returned (.int .i64 (-1)) ∧ Below w.heap.size w w' := by
  have hb : (r == 65533) = false := beq_eq_false_iff_ne.2 hne
  have hd1 : decide (r < 128) = false := decide_eq_false (by omega)
  have hd0 : decide (0 ≤ r) = true := decide_eq_true (by omega)
  obtain ⟨hs2, hs4, hlast⟩ := encode_facts r (by rw [← valid_eq]; exact hv) h0
  obtain ⟨rs, hrs⟩ : ∃ rs, Utf8.encode r = rs := ⟨_, rfl⟩
  rw [hrs] at hs2 hs4
  simp only [hrs] at hlast
  have hl := hlast (by omega)
  clear hne hlast
  by_cases h2 : rs.size = 2
  · have hq : (rs[rs.size - 1]'(by omega)) = rs[1]'(by omega) := by congr 1; omega
    rw [hq] at hl
    have hb1 : ((((⟨#[125, 58]⟩ : ByteArray)[1]'(by decide)).toNat : Int) != ((rs[1]'(by omega)).toNat : Int)) = true := by
      rw [bne_iff_ne]
      show (58 : Int) ≠ _
      omega
    have hsz : (rs.size : Int) - 1 = 1 := by omega
    have hw2 : IntKind.i64.wrap 2 = 2 := by decide
    have hsl := cut_two
    have hix : ∀ c, Lib.indexByte [] c = -1 := fun _ => rfl
    clear hq
    go_enter Try.func33, Try.ntmps33
    go_wp2_with (go_at_call 41; refine (Try.utf8_ValidRune _ _).mono ?_; rintro e w' ⟨rfl, rfl⟩)
    go_step3
    go_wp2
    refine wp_loop_rounds 1 ?_
    rw [rounds_succ]
    go_wp2
    go_step3
    go_wp2
    go_quiet (fail)
    go_wp2_with fail
    go_quiet ((go_at_call 30; exact (Try.strings_IndexByte _ _ _).mono fun e w'' h => ⟨h.1, _, h.2⟩))
    go_wp2_with fail
    rw [Exit.noGoto_ret]
    go_wp2
    rw [Exit.noGoto_ret]
    go_ret
    exact ⟨rfl, below_drewN (Below.refl _ _) _⟩
  · go_enter Try.func33, Try.ntmps33
    go_wp2_with (go_at_call 41; refine (Try.utf8_ValidRune _ _).mono ?_; rintro e w' ⟨rfl, rfl⟩)
    go_step3
    go_wp2
    refine wp_loop_rounds 1 ?_
    rw [rounds_succ]
    go_wp2
    rw [Exit.noGoto_ret]
    go_ret
    exact ⟨rfl, Below.refl _ _⟩

set_option maxHeartbeats 2000000 in
set_option maxRecDepth 100000 in
theorem ir_err (w : World) :
    Calls Try.prog 33 #[.string ⟨#[125, 58]⟩, .int .i32 65533] w fun e w' => e = .returned (.int .i64 (-1)) ∧ Below w.heap.size w w' := by
  have hn0 := fun ty => run_next_ascii (P := Try.prog) w ⟨#[125, 58]⟩ 0 ty (by decide) (by decide)
  have hn1 := fun ty => run_next_ascii (P := Try.prog) w ⟨#[125, 58]⟩ 1 ty (by decide) (by decide)
  have hn2 := run_next_end (P := Try.prog) w ⟨#[125, 58]⟩ 2
  go_enter Try.func33, Try.ntmps33
  go_wp2
  refine wp_loop_rounds 3 ?_
  rw [rounds_succ]
  go_wp2
  rw [rounds_succ]
  go_wp2
  rw [rounds_succ]
  go_wp2
  go_ret
  exact ⟨rfl, (Below.refl _ _).alloc (Nat.le_refl _) _⟩
end Go.Proofs.Qxb6603439a
