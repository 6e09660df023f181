/-
  strings.IndexAny (28) at the two bytes 125 and 58: every string, valid UTF-8 or not.
-/
import Derived.Test.Qxb6603439aIr
import Derived.Test.Qxb6603439aSet
import Derived.Lib.IndexAny
import Derived.Lib.TrimUEq
import Derived.Lib.TrimU
namespace Go.Proofs.Qxb6603439a
open Go.RowKit

theorem ir_high (r : Int) (w : World) (h0 : 128 ≤ r) :
    Calls Try.prog 33 #[.string ⟨#[125, 58]⟩, .int .i32 r] w fun e w' => e = .returned (.int .i64 (-1)) ∧ Below w.heap.size w w' := by
  by_cases hne : r = 65533
  · subst hne; exact ir_err w
  · cases hv : Lib.validRune r
    · refine (ir_bad r w h0 hne hv).mono ?_
      rintro e w' ⟨rfl, rfl⟩
      exact ⟨rfl, Below.refl _ _⟩
    · exact ir_good r w h0 hne hv

theorem decodeN_high (n b0 b1 b2 b3 : Nat) (h : 128 ≤ b0) : 128 ≤ (Lib.decodeN n b0 b1 b2 b3).1 := by
  unfold Lib.decodeN
  repeat' split
  all_goals (simp only; omega)

/-- a byte of a rune that is no ASCII is no ASCII byte -/
theorem high_at (s : ByteArray) (pos : Nat) (x : UInt8) (hx : s.data.toList[pos]? = some x) (h : 128 ≤ x.toNat) :
    128 ≤ (Utf8.decode s pos).1 ∧ ∀ (j : Nat) (b : UInt8), pos ≤ j → j < pos + (Utf8.decode s pos).2 → s.data.toList[j]? = some b → 128 ≤ b.toNat := by
  rw [Lib.decode_N]
  have hg : ∀ (j : Nat) (b : UInt8), s.data.toList[j]? = some b → s.data.toList.getD j 0 = b := fun j b hb => by rw [List.getD_eq_getElem?_getD, hb]; rfl
  have e0 := hg pos x hx
  refine ⟨decodeN_high _ _ _ _ _ (by rw [e0]; exact h), ?_⟩
  obtain ⟨c1, c2, c3, c4⟩ := Lib.decodeN_conts (s.data.toList.length - pos) (s.data.toList.getD pos 0).toNat (s.data.toList.getD (pos + 1) 0).toNat (s.data.toList.getD (pos + 2) 0).toNat (s.data.toList.getD (pos + 3) 0).toNat
  intro j b h1 h2 hb
  have eb := hg j b hb
  by_cases j0 : j = pos
  · subst j0; rw [hb] at hx; injection hx with hx; rw [hx]; exact h
  by_cases j1 : j = pos + 1
  · subst j1; have := (c1 (by omega)).1; rw [eb] at this; omega
  by_cases j2 : j = pos + 2
  · subst j2; have := (c2 (by omega)).1; rw [eb] at this; omega
  by_cases j3 : j = pos + 3
  · subst j3; have := (c3 (by omega)).1; rw [eb] at this; omega
  omega

theorem not_in (b : UInt8) (h : 128 ≤ b.toNat) : ([125, 58] : List UInt8).contains b = false := by
  rw [Bool.eq_false_iff]
  intro hc
  simp only [List.contains_cons, List.contains_nil, Bool.or_false, Bool.or_eq_true, beq_iff_eq] at hc
  rcases hc with rfl | rfl
  · exact absurd h (by decide)
  · exact absurd h (by decide)

theorem noAny_on {s : ByteArray} {pos n : Nat} (h : Lib.NoAny s.data.toList [125, 58] pos) (h2 : ∀ (j : Nat) (b : UInt8), pos ≤ j → j < pos + n → s.data.toList[j]? = some b → 128 ≤ b.toNat) : Lib.NoAny s.data.toList [125, 58] (pos + n) := fun j b hj hb => by
  by_cases hp : j < pos
  · exact h j b hp hb
  · exact not_in b (h2 j b (by omega) hj hb)

set_option maxHeartbeats 2000000 in
set_option maxRecDepth 100000 in
theorem ia_short (s : ByteArray) (w : World) (h8 : s.size ≤ 8) :
    Calls Try.prog 28 #[.string s, .string ⟨#[125, 58]⟩] w fun e w' => e = .returned (.int .i64 (Lib.indexAny s.data.toList [125, 58])) ∧ Below w.heap.size w w' := by
  have h8z : decide ((8 : Int) < (s.size : Int)) = false := decide_eq_false (by omega)
  go_enter Try.func28, Try.ntmps28
  go_wp2_with (go_at_call 34; refine (Try.strings_shouldUseASCIISet _ _).mono ?_; rintro e w' ⟨rfl, hw⟩; rw [hw, h8z])
  go_loopg [9, 10] s.size (fun g _ _ wx => ∃ pos : Nat, wx.heap[w.heap.size]? = some (.stringIter s pos) ∧ Below w.heap.size w wx ∧ Lib.NoAny s.data.toList [125, 58] pos ∧ s.size ≤ pos + g)
  case atStart => exact ⟨0, World.iter_heap w s 0, (Below.refl _ w).alloc (Nat.le_refl _) _, Lib.NoAny.zero _ _, by omega⟩
  case round =>
    obtain ⟨pos, hit, hbw, hno, hfu⟩ := hrel
    have hsz : w.heap.size < wr.heap.size := (Array.getElem?_eq_some_iff.1 hit).1
    have HN : Hid (Lib.NoAny s.data.toList [125, 58] pos) := hno
    have HB : Hid (Below w.heap.size w wr) := hbw
    clear hno hbw
    by_cases hp : pos < s.size
    · obtain ⟨g, rfl⟩ : ∃ g, gk = g + 1 := ⟨gk - 1, by omega⟩
      obtain ⟨x, hx⟩ : ∃ x : UInt8, s.data.toList[pos]? = some x := ⟨s.data.toList[pos]'(by simpa using hp), List.getElem?_eq_getElem (by simpa using hp)⟩
      have hnx : ∀ ty, (Instr.next (.pointer (some ⟨w.heap.size, 0, none⟩)) true ty).run Try.prog wr = _ := fun ty => Lib.run_next_any_at wr w.heap.size s pos ty hit hp
      have hit2 := Lib.iterAt_heap wr w.heap.size s pos (pos + (Utf8.decode s pos).2) hit
      have hsz2 : w.heap.size < (wr.iterAt w.heap.size s (pos + (Utf8.decode s pos).2)).heap.size := by rw [Lib.iterAt_size]; exact hsz
      have HB2 : Hid (Below w.heap.size w (wr.iterAt w.heap.size s (pos + (Utf8.decode s pos).2))) := Lib.below_iterAt HB.out (Nat.le_refl _) s _
      by_cases hhi : 128 ≤ x.toNat
      · obtain ⟨hr, hcs⟩ := high_at s pos x hx hhi
        have hwd := Lib.width_pos s pos
        have HN2 : Hid (Lib.NoAny s.data.toList [125, 58] (pos + (Utf8.decode s pos).2)) := noAny_on HN.out hcs
        clear hcs hit
        generalize (Utf8.decode s pos).1 = r at *
        generalize (Utf8.decode s pos).2 = wd at *
        generalize wr.iterAt w.heap.size s (pos + wd) = w2 at *
        go_wp2_with (go_at_call 33; refine (ir_high _ _ (by omega)).mono ?_; rintro e w3 ⟨rfl, hb3⟩)
        go_roundg g
        case measure => omega
        case rel => exact ⟨pos + wd, by rw [hb3.block _ hsz2]; exact hit2, HB2.out.trans (hb3.mono HB2.out.size), HN2.out, by omega⟩
      · have hdec : Utf8.decode s pos = (x.toNat, 1) := by
          rw [Lib.decode_N, Lib.decodeN_ascii _ _ _ _ _ (by rw [List.getD_eq_getElem?_getD, hx]; simp; omega), List.getD_eq_getElem?_getD, hx]
          rfl
        rw [hdec] at hnx hit2 HB2
        simp only at hnx hit2 HB2
        clear hsz2
        have hcon := Lib.contains_iff_indexByte [125, 58] x
        have hback : ((x.toNat : Int)).toNat.toUInt8 = x := by simp
        have HX : Hid (s.data.toList[pos]? = some x) := hx
        clear hdec hx hit
        generalize wr.iterAt w.heap.size s (pos + 1) = w2 at *
        cases hin : ([125, 58] : List UInt8).contains x
        · rw [hin] at hcon
          have hlt : ¬ ((0 : Int) ≤ Lib.indexByte [125, 58] x) := of_decide_eq_false hcon.symm
          have HIN : Hid (([125, 58] : List UInt8).contains x = false) := hin
          clear hcon hin
          go_wp2_with (go_at_call 33; refine (Try.strings_IndexRune_ascii _ _ _ (by omega) (by omega)).mono ?_; rintro e w3 ⟨rfl, hw⟩; rw [hw, hback])
          go_roundg g
          case measure => omega
          case rel => exact ⟨pos + 1, hit2, HB2.out, HN.out.succ HX.out HIN.out, by omega⟩
        · rw [hin] at hcon
          have hge : (0 : Int) ≤ Lib.indexByte [125, 58] x := of_decide_eq_true hcon.symm
          have HIN : Hid (([125, 58] : List UInt8).contains x = true) := hin
          clear hcon hin
          go_wp2_with (go_at_call 33; refine (Try.strings_IndexRune_ascii _ _ _ (by omega) (by omega)).mono ?_; rintro e w3 ⟨rfl, hw⟩; rw [hw, hback])
          go_ret
          exact ⟨by rw [Lib.indexAny_hit HN.out HX.out HIN.out]; rfl, HB2.out⟩
    · have hnx : ∀ ty, (Instr.next (.pointer (some ⟨w.heap.size, 0, none⟩)) true ty).run Try.prog wr = _ := fun ty => Lib.run_next_end_at wr w.heap.size s pos ty hit hp
      go_wp2
      go_ret
      refine ⟨?_, HB.out⟩
      have : Lib.indexAny s.data.toList [125, 58] = -1 := Lib.indexAny_none (fun j b hj hb => HN.out j b (by rw [← Lib.size_eq] at hj; omega) hb)
      rw [this]
      rfl

theorem info44 : (Try.prog.info? 44).map (fun i => (i.zero, i.size)) = some (some (.agg (Array.replicate 256 (.bool false))), 256) := by kernel_rfl

/-- strings.IndexAny of the two bytes, at every string -/
theorem ia_any (s : ByteArray) (w : World) (hs : s.size ≤ 4000000) :
    Calls Try.prog 28 #[.string s, .string ⟨#[125, 58]⟩] w fun e w' => e = .returned (.int .i64 (Lib.indexAny s.data.toList [125, 58])) ∧ Below w.heap.size w w' := by
  by_cases h8 : s.size ≤ 8
  · exact ia_short s w h8
  · refine (Try.strings_IndexAny_long (zero_of_info info44).1 s ⟨#[125, 58]⟩ w (by decide) (by omega) (by omega) (by decide) ?_).mono ?_
    · intro j b hb
      have : b ∈ ([125, 58] : List UInt8) := List.mem_of_getElem? hb
      simp only [List.mem_cons, List.not_mem_nil, or_false] at this
      rcases this with rfl | rfl <;> decide
    · rintro e w' ⟨rfl, rfl⟩
      exact ⟨rfl, ((Below.refl _ _).alloc (Nat.le_refl _) _).alloc (by simp) _⟩
end Go.Proofs.Qxb6603439a
