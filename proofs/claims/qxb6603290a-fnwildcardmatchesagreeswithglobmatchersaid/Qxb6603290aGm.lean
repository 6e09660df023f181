/-
  WALKS: globMatchMB1 (13).
-/
import Derived.Test.Qxb6603290aGlob
import Derived.Test.Qxb6603290aMatch
namespace Go.Proofs.Qxb6603290a
open Go.RowKit

/-- what globMatchMB1 answers -/
def GmOk (T : List Int) (S : List UInt8) (w : World) (e : Ending) (w' : World) : Prop := ∃ r : Bool, e = .returned (.bool r) ∧ (r = true ↔ Wc.G T S) ∧ ∃ n, w' = w.drewN n

theorem bl_at (s : ByteArray) (i : Nat) (h : i < s.size) : (bl s)[i]? = some s[i] := by
  unfold bl
  rw [Array.getElem?_toList, Array.getElem?_eq_getElem (by exact h)]
  rfl

theorem wrap_byte (c : UInt8) : wrap64 (c.toNat : Int) = (c.toNat : Int) := by
  have := c.toNat_lt
  unfold wrap64
  omega

theorem succ_toNat (n : Nat) : ((n : Int) + 1).toNat = n + 1 := by omega

set_option maxHeartbeats 2000000 in
theorem gm_any (b cap : Nat) (T : List Int) (s : ByteArray) (w : World) (hn : T.length ≤ 4000000) (hs : s.size ≤ 4000000) (hr : ∀ i, -1 ≤ T.getD i 0 ∧ T.getD i 0 ≤ 255)
    (hc : ∀ i, i < T.length → w.cell? ⟨b, i, none⟩ = some (.int .i64 (T.getD i 0))) :
    Calls Try.prog 13 #[.slice (some ⟨b, 0, none⟩) T.length cap, .string s] w fun e w' => GmOk T (bl s) w e w' := by
  have HC : Hid (∀ i, i < T.length → w.cell? ⟨b, i, none⟩ = some (.int .i64 (T.getD i 0))) := hc
  have HR : Hid (∀ i, -1 ≤ T.getD i 0 ∧ T.getD i 0 ≤ 255) := hr
  clear hc hr
  go_enter Try.func13, Try.ntmps13
  go_wp2
  go_loopw [5, 6, 7, 8] (fun p i st mk wr => ∃ (pi si mark nq : Nat) (star : Int), p = .int .i64 pi ∧ i = .int .i64 si ∧ st = .int .i64 star ∧ mk = .int .i64 mark ∧ Wc.Inv T (bl s) pi si star mark ∧ wr = w.drewN nq)
    (fun p i _ mk _ => Wc.meas s.size T.length (intOf p).toNat (intOf i).toNat (intOf mk).toNat)
  case atStart => exact ⟨0, 0, 0, 0, -1, rfl, rfl, rfl, rfl, Wc.Inv.start _ _, rfl⟩
  case round =>
    obtain ⟨pi, si, mark, nq, star, rfl, rfl, rfl, rfl, hI, rfl⟩ := hrel
    obtain ⟨hst0, hst1⟩ := hI.star_range
    obtain ⟨hpi, hsi, hmk, -⟩ := id hI
    have hbl : (bl s).length = s.size := by simp [bl]
    have HBL : Hid ((bl s).length = s.size) := hbl
    rw [hbl] at hsi
    have HI : Hid (Wc.Inv T (bl s) pi si star mark) := hI
    clear hI hbl
    by_cases hlt : si < s.size
    · have hS := bl_at s si hlt
      have HS : Hid ((bl s)[si]? = some s[si]) := hS
      clear hS
      by_cases hp : pi < T.length
      · have hd1 : decide ((pi : Int) < (T.length : Int)) = true := decide_eq_true (by omega)
        have hcell := HC.out pi hp
        have hrg := HR.out pi
        have HT : Hid (T[pi]? = some (T.getD pi 0)) := by
          show _ = _
          rw [List.getD_eq_getElem?_getD, List.getElem?_eq_getElem hp]; rfl
        clear HC HR
        generalize T.getD pi 0 = y at *
        by_cases hy : y < 0
        · have HN : Hid (Wc.Inv T (bl s) (pi + 1) si (pi : Int) si) := HI.out.star HT.out hy
          have hd2 : decide (0 ≤ y) = false := decide_eq_false (by omega)
          clear HT HI HS
          go_wp2_with fail
          go_quiet (fail)
          go_wp2
          go_roundw
          case rel => exact ⟨pi + 1, si, si, _, _, by go_num, rfl, rfl, rfl, HN.out, rfl⟩
          case measure =>
            simp only [intOf, succ_toNat, Int.toNat_natCast]
            exact Wc.meas_star hp hmk
        by_cases hc : y = (s[si].toNat : Int)
        · have HN : Hid (Wc.Inv T (bl s) (pi + 1) (si + 1) star mark) := HI.out.lit (c := s[si]) (by rw [HT.out, hc]; rfl) HS.out
          have hd2 : decide (0 ≤ y) = true := decide_eq_true (by omega)
          have hsy : ((s[si].toNat : Int) == (s[si].toNat : Int)) = true := by simp
          clear HT HI HS
          subst hc
          go_wp2_with fail
          go_quiet (fail)
          go_wp2
          go_roundw
          case rel => exact ⟨pi + 1, si + 1, mark, _, star, by go_num, by go_num, rfl, rfl, HN.out, rfl⟩
          case measure =>
            simp only [intOf, succ_toNat, Int.toNat_natCast]
            exact Wc.meas_lit hp
        · have HP : Hid (Wc.Parts T (bl s) pi si) := ⟨s[si], HS.out, Or.inr ⟨y, HT.out, by omega, hc⟩⟩
          have hd2 : decide (0 ≤ y) = true := decide_eq_true (by omega)
          have hd4 : decide (y < 0) = false := decide_eq_false (by omega)
          have hsy : (y == wrap64 (s[si].toNat : Int)) = false := by rw [wrap_byte, beq_eq_false_iff_ne]; exact hc
          clear HT HS hc
          by_cases hst : star < 0
          · have HF : Hid (¬ Wc.G T (bl s)) := HI.out.fail HP.out hst
            have hd3 : decide (0 ≤ star) = false := decide_eq_false (by omega)
            clear HI HP
            go_wp2_with fail
            go_quiet (fail)
            go_wp2
            go_ret
            exact ⟨false, rfl, by simp only [Bool.false_eq_true, false_iff]; exact HF.out, _, rfl⟩
          · obtain ⟨st, hst'⟩ := Int.eq_ofNat_of_zero_le (show 0 ≤ star by omega)
            subst hst'
            have HN : Hid (Wc.Inv T (bl s) (st + 1) (mark + 1) (st : Int) (mark + 1)) := HI.out.back HP.out
            have hd3 : decide (0 ≤ (st : Int)) = true := decide_eq_true (by omega)
            clear HI HP
            go_wp2_with fail
            go_quiet (fail)
            go_wp2
            go_roundw
            case rel => exact ⟨st + 1, mark + 1, mark + 1, _, _, by go_num, by go_num, rfl, by go_num, HN.out, rfl⟩
            case measure =>
              simp only [intOf, succ_toNat, Int.toNat_natCast]
              exact Wc.meas_back hmk hlt
      · have HP : Hid (Wc.Parts T (bl s) pi si) := ⟨s[si], HS.out, Or.inl (List.getElem?_eq_none (by omega))⟩
        have hd1 : decide ((pi : Int) < (T.length : Int)) = false := decide_eq_false (by omega)
        clear HS HC HR
        by_cases hst : star < 0
        · have HF : Hid (¬ Wc.G T (bl s)) := HI.out.fail HP.out hst
          have hd3 : decide (0 ≤ star) = false := decide_eq_false (by omega)
          clear HI HP
          go_wp2_with fail
          go_quiet (fail)
          go_wp2
          go_ret
          exact ⟨false, rfl, by simp only [Bool.false_eq_true, false_iff]; exact HF.out, _, rfl⟩
        · obtain ⟨st, hst'⟩ := Int.eq_ofNat_of_zero_le (show 0 ≤ star by omega)
          subst hst'
          have HN : Hid (Wc.Inv T (bl s) (st + 1) (mark + 1) (st : Int) (mark + 1)) := HI.out.back HP.out
          have hd3 : decide (0 ≤ (st : Int)) = true := decide_eq_true (by omega)
          clear HI HP
          go_wp2_with fail
          go_quiet (fail)
          go_wp2
          go_roundw
          case rel => exact ⟨st + 1, mark + 1, mark + 1, _, _, by go_num, by go_num, rfl, by go_num, HN.out, rfl⟩
          case measure =>
            simp only [intOf, succ_toNat, Int.toNat_natCast]
            exact Wc.meas_back hmk hlt
    · have HO : Hid (Wc.G T (bl s) ↔ Wc.G (T.drop pi) []) := HI.out.out (by rw [HBL.out]; omega)
      clear HI
      go_wp2
      go_loop [5] (fun p => ∃ k : Nat, p = .int .i64 k ∧ k ≤ T.length ∧ Hid (Wc.G T (bl s) ↔ Wc.G (T.drop k) [])) (fun p => T.length - (intOf p).toNat)
      case atStart => exact ⟨pi, rfl, hpi, HO⟩
      case round =>
        obtain ⟨k, rfl, hk, HK⟩ := hrel
        clear HO
        by_cases hkt : k < T.length
        · have hcell := HC.out k hkt
          have HT : Hid (T[k]? = some (T.getD k 0)) := by
            show _ = _
            rw [List.getD_eq_getElem?_getD, List.getElem?_eq_getElem hkt]; rfl
          have hd1 : decide ((k : Int) < (T.length : Int)) = true := decide_eq_true (by omega)
          clear HC HR
          generalize T.getD k 0 = y at *
          by_cases hy : y < 0
          · have HN : Hid (Wc.G T (bl s) ↔ Wc.G (T.drop (k + 1)) []) := HK.out.trans (Wc.tail_star HT.out hy)
            clear HK HT
            go_wp2
            go_round
            case rel => exact ⟨k + 1, by go_num, by omega, HN⟩
            case measure => simp [intOf]; omega
          · have HN : Hid (¬ Wc.G T (bl s)) := fun h => Wc.tail_byte HT.out (by omega) (HK.out.1 h)
            have hd2 : decide (y < 0) = false := decide_eq_false hy
            have heq : ((k : Int) == (T.length : Int)) = false := by rw [beq_eq_false_iff_ne]; omega
            clear HK HT
            go_wp2
            go_ret
            exact ⟨false, rfl, by simp only [Bool.false_eq_true, false_iff]; exact HN.out, _, rfl⟩
        · have HN : Hid (Wc.G T (bl s)) := HK.out.2 (Wc.tail_end (by omega))
          have hd1 : decide ((k : Int) < (T.length : Int)) = false := decide_eq_false (by omega)
          have heq : ((k : Int) == (T.length : Int)) = true := by rw [beq_iff_eq]; omega
          clear HK HC
          go_wp2
          go_ret
          exact ⟨true, rfl, by simp only [true_iff]; exact HN.out, _, rfl⟩
end Go.Proofs.Qxb6603290a
