/-
  WALKS: sipb1PrintableNonToken (14), isToken (17), ZZisToken (15); and the plain law that the two tests are one.
-/
import Derived.Test.Qxb6603950aChecked
import Derived.Test.Qxb6603950aShelf
import Derived.WalkKit
import Derived.WalkLawsBesides
import Derived.WalkSpells
import Derived.Outline
namespace Go.Proofs.Qxb6603950a
open Go.RowKit

def bl (s : ByteArray) : List UInt8 := s.data.toList

/-- the printable bytes that no token bears -/
def nonN (n : Int) : Bool :=
  n == 34 || n == 35 || n == 36 || n == 38 || n == 40 || n == 41 || n == 44 || n == 47 || n == 58 || n == 59 || n == 60 || n == 61 || n == 62 || n == 63 || n == 64 || n == 91 || n == 92 || n == 93 || n == 94 || n == 123 || n == 124 || n == 125

def spec : List UInt8 := [45, 46, 33, 37, 42, 95, 43, 96, 39, 126]

/-- the bytes of a token, as the project says it -/
def tokB (c : UInt8) : Bool :=
  decide (97 ≤ (c.toNat : Int) ∧ (c.toNat : Int) ≤ 122) || decide (65 ≤ (c.toNat : Int) ∧ (c.toNat : Int) ≤ 90) || decide (48 ≤ (c.toNat : Int) ∧ (c.toNat : Int) ≤ 57) || spec.contains c

/-- the bytes of a token, as the law says it -/
def goodB (c : UInt8) : Bool := decide (33 ≤ (c.toNat : Int) ∧ (c.toNat : Int) ≤ 126) && !nonN (c.toNat : Int)

theorem same256 : (List.range 256).all (fun n => tokB (UInt8.ofNat n) == goodB (UInt8.ofNat n)) = true := by decide +kernel

theorem same (c : UInt8) : tokB c = goodB c := by
  have h := List.all_eq_true.1 same256 c.toNat (by rw [List.mem_range]; exact c.toNat_lt)
  rw [beq_iff_eq] at h
  have e : UInt8.ofNat c.toNat = c := by simp
  rw [e] at h
  exact h

set_option maxHeartbeats 1000000 in
theorem non_any (n : Int) (w : World) :
    Calls Try.prog 14 #[.int .u8 n] w fun e w' => e = .returned (.bool (nonN n)) ∧ w' = w := by
  go_enter Try.func14, Try.ntmps14
  go_wp2
  all_goals
    go_ret
    refine ⟨?_, rfl⟩
    simp_all [nonN]

theorem index_has : ∀ (l : List UInt8) (c : UInt8), decide (0 ≤ Lib.indexByte l c) = l.contains c
  | [], c => by simp [Lib.indexByte]
  | d :: l, c => by
    have ih := index_has l c
    have hge := Lib.indexByte_ge l c
    unfold Lib.indexByte
    rw [List.contains_cons]
    by_cases h : d = c
    · subst h; simp
    · have h1 : (d == c) = false := by simpa using h
      have h2 : (c == d) = false := by simpa using fun e : c = d => h e.symm
      rw [h1, h2, Bool.false_or, ← ih]
      by_cases h3 : Lib.indexByte l c = -1
      · simp [h3]
      · have h4 : (Lib.indexByte l c == -1) = false := by simpa using h3
        rw [h4]
        simp only [Bool.false_eq_true, if_false]
        rw [decide_eq_decide]
        omega

theorem bl_at (s : ByteArray) (i : Nat) (h : i < s.size) : (bl s)[i]? = some s[i] := by
  unfold bl
  rw [Array.getElem?_toList, Array.getElem?_eq_getElem (by exact h)]
  rfl

theorem len_bl (s : ByteArray) : (bl s).length = s.size := by simp [bl]

theorem take_next (s : ByteArray) (k : Nat) (h : k < s.size) : (bl s).take (k + 1) = (bl s).take k ++ [s[k]] := by
  rw [List.take_succ_eq_append_getElem (by rw [len_bl]; exact h)]
  rfl

/-- what isToken answers -/
def isTok (l : List UInt8) : Bool := !l.isEmpty && l.all tokB

theorem tok_out {s : ByteArray} {k : Nat} (hlt : k < s.size) (h : tokB s[k] = false) : isTok (bl s) = false := by
  unfold isTok
  have : (bl s).all tokB = false := by
    rw [List.all_eq_false]
    exact ⟨s[k], List.mem_of_getElem? (bl_at s k hlt), by rw [h]; simp⟩
  rw [this, Bool.and_false]

set_option maxHeartbeats 2000000 in
set_option maxRecDepth 100000 in
theorem tok_any (s : ByteArray) (w : World) (hs : s.size ≤ 4000000) :
    Calls Try.prog 17 #[.string s] w fun e w' => e = .returned (.bool (isTok (bl s))) ∧ w' = w := by
  rcases Nat.eq_zero_or_pos s.size with h0 | hpos
  · have e : bl s = [] := List.eq_nil_of_length_eq_zero (by rw [len_bl]; exact h0)
    have hem : s.toList.isEmpty = true := by rw [Lib.toList_data]; unfold bl at e; rw [e]; rfl
    have HE : Hid (isTok (bl s) = false) := by show _ = _; rw [e]; rfl
    clear e h0
    go_enter Try.func17, Try.ntmps17
    go_wp2
    go_ret
    exact ⟨by rw [HE.out]; rfl, rfl⟩
  have hem : s.toList.isEmpty = false := by
    rw [Lib.toList_data]
    cases h : s.data.toList with
    | nil => have := len_bl s; unfold bl at this; rw [h, List.length_nil] at this; omega
    | cons _ _ => rfl
  go_enter Try.func17, Try.ntmps17
  go_wp2
  clear hem
  go_loop [3] (fun i => ∃ k : Nat, k ≤ s.size ∧ i = .int .i64 k ∧ Hid (((bl s).take k).all tokB = true)) (fun i => s.size - (intOf i).toNat)
  case atStart => exact ⟨0, Nat.zero_le _, rfl, by show _ = _; simp⟩
  case round =>
    obtain ⟨k, hk, rfl, HK⟩ := hrel
    by_cases hlt : k < s.size
    · have HN : Hid (tokB s[k] = true → ((bl s).take (k + 1)).all tokB = true) := fun h => by rw [take_next s k hlt, List.all_append, HK.out]; simp [h]
      have HF : Hid (tokB s[k] = false → isTok (bl s) = false) := tok_out hlt
      obtain ⟨c, hc⟩ : ∃ c, s[k] = c := ⟨_, rfl⟩
      rw [hc] at HN HF
      have hb := UInt8.toNat_lt c
      have hback : ((c.toNat : Int)).toNat.toUInt8 = c := by simp
      have HI := (show Hid (decide (0 ≤ Lib.indexByte spec c) = spec.contains c) from index_has spec c)
      clear HK
      rcases (show (c.toNat : Int) < 48 ∨ (48 ≤ (c.toNat : Int) ∧ (c.toNat : Int) ≤ 57) ∨ (58 ≤ (c.toNat : Int) ∧ (c.toNat : Int) < 65) ∨ (65 ≤ (c.toNat : Int) ∧ (c.toNat : Int) ≤ 90) ∨ (91 ≤ (c.toNat : Int) ∧ (c.toNat : Int) < 97) ∨ (97 ≤ (c.toNat : Int) ∧ (c.toNat : Int) ≤ 122) ∨ 123 ≤ (c.toNat : Int) from by omega) with h | ⟨h1, h2⟩ | ⟨h1, h2⟩ | ⟨h1, h2⟩ | ⟨h1, h2⟩ | ⟨h1, h2⟩ | h
      · cases hsp : spec.contains c
        · have HT : Hid (isTok (bl s) = false) := HF.out (by
            unfold tokB
            rw [decide_eq_false (by omega), decide_eq_false (by omega), decide_eq_false (by omega), hsp]
            rfl)
          have hx : decide (0 ≤ Lib.indexByte [45, 46, 33, 37, 42, 95, 43, 96, 39, 126] c) = false := by rw [← hsp]; exact HI.out
          clear HN HF HI hsp
          go_wp2_with (go_at_call 18; refine (Try.strings_IndexByte _ _ _).mono ?_; rintro e w' ⟨rfl, rfl⟩)
          go_ret
          exact ⟨by rw [HT.out]; rfl, rfl⟩
        · have HT : Hid (((bl s).take (k + 1)).all tokB = true) := HN.out (by unfold tokB; rw [hsp, Bool.or_true])
          have hx : decide (0 ≤ Lib.indexByte [45, 46, 33, 37, 42, 95, 43, 96, 39, 126] c) = true := by rw [← hsp]; exact HI.out
          clear HN HF HI hsp
          go_wp2_with (go_at_call 18; refine (Try.strings_IndexByte _ _ _).mono ?_; rintro e w' ⟨rfl, rfl⟩)
          go_round
          case rel => exact ⟨k + 1, by omega, by go_num, HT⟩
          case measure => simp [intOf]; omega
      · have HT : Hid (((bl s).take (k + 1)).all tokB = true) := HN.out (by unfold tokB; simp [h1, h2])
        clear HN HF HI
        go_wp2
        go_round
        case rel => exact ⟨k + 1, by omega, by go_num, HT⟩
        case measure => simp [intOf]; omega
      · cases hsp : spec.contains c
        · have HT : Hid (isTok (bl s) = false) := HF.out (by
            unfold tokB
            rw [decide_eq_false (by omega), decide_eq_false (by omega), decide_eq_false (by omega), hsp]
            rfl)
          have hx : decide (0 ≤ Lib.indexByte [45, 46, 33, 37, 42, 95, 43, 96, 39, 126] c) = false := by rw [← hsp]; exact HI.out
          clear HN HF HI hsp
          go_wp2_with (go_at_call 18; refine (Try.strings_IndexByte _ _ _).mono ?_; rintro e w' ⟨rfl, rfl⟩)
          go_ret
          exact ⟨by rw [HT.out]; rfl, rfl⟩
        · have HT : Hid (((bl s).take (k + 1)).all tokB = true) := HN.out (by unfold tokB; rw [hsp, Bool.or_true])
          have hx : decide (0 ≤ Lib.indexByte [45, 46, 33, 37, 42, 95, 43, 96, 39, 126] c) = true := by rw [← hsp]; exact HI.out
          clear HN HF HI hsp
          go_wp2_with (go_at_call 18; refine (Try.strings_IndexByte _ _ _).mono ?_; rintro e w' ⟨rfl, rfl⟩)
          go_round
          case rel => exact ⟨k + 1, by omega, by go_num, HT⟩
          case measure => simp [intOf]; omega
      · have HT : Hid (((bl s).take (k + 1)).all tokB = true) := HN.out (by unfold tokB; simp [h1, h2])
        clear HN HF HI
        go_wp2
        go_round
        case rel => exact ⟨k + 1, by omega, by go_num, HT⟩
        case measure => simp [intOf]; omega
      · cases hsp : spec.contains c
        · have HT : Hid (isTok (bl s) = false) := HF.out (by
            unfold tokB
            rw [decide_eq_false (by omega), decide_eq_false (by omega), decide_eq_false (by omega), hsp]
            rfl)
          have hx : decide (0 ≤ Lib.indexByte [45, 46, 33, 37, 42, 95, 43, 96, 39, 126] c) = false := by rw [← hsp]; exact HI.out
          clear HN HF HI hsp
          go_wp2_with (go_at_call 18; refine (Try.strings_IndexByte _ _ _).mono ?_; rintro e w' ⟨rfl, rfl⟩)
          go_ret
          exact ⟨by rw [HT.out]; rfl, rfl⟩
        · have HT : Hid (((bl s).take (k + 1)).all tokB = true) := HN.out (by unfold tokB; rw [hsp, Bool.or_true])
          have hx : decide (0 ≤ Lib.indexByte [45, 46, 33, 37, 42, 95, 43, 96, 39, 126] c) = true := by rw [← hsp]; exact HI.out
          clear HN HF HI hsp
          go_wp2_with (go_at_call 18; refine (Try.strings_IndexByte _ _ _).mono ?_; rintro e w' ⟨rfl, rfl⟩)
          go_round
          case rel => exact ⟨k + 1, by omega, by go_num, HT⟩
          case measure => simp [intOf]; omega
      · have HT : Hid (((bl s).take (k + 1)).all tokB = true) := HN.out (by unfold tokB; simp [h1, h2])
        clear HN HF HI
        go_wp2
        go_round
        case rel => exact ⟨k + 1, by omega, by go_num, HT⟩
        case measure => simp [intOf]; omega
      · cases hsp : spec.contains c
        · have HT : Hid (isTok (bl s) = false) := HF.out (by
            unfold tokB
            rw [decide_eq_false (by omega), decide_eq_false (by omega), decide_eq_false (by omega), hsp]
            rfl)
          have hx : decide (0 ≤ Lib.indexByte [45, 46, 33, 37, 42, 95, 43, 96, 39, 126] c) = false := by rw [← hsp]; exact HI.out
          clear HN HF HI hsp
          go_wp2_with (go_at_call 18; refine (Try.strings_IndexByte _ _ _).mono ?_; rintro e w' ⟨rfl, rfl⟩)
          go_ret
          exact ⟨by rw [HT.out]; rfl, rfl⟩
        · have HT : Hid (((bl s).take (k + 1)).all tokB = true) := HN.out (by unfold tokB; rw [hsp, Bool.or_true])
          have hx : decide (0 ≤ Lib.indexByte [45, 46, 33, 37, 42, 95, 43, 96, 39, 126] c) = true := by rw [← hsp]; exact HI.out
          clear HN HF HI hsp
          go_wp2_with (go_at_call 18; refine (Try.strings_IndexByte _ _ _).mono ?_; rintro e w' ⟨rfl, rfl⟩)
          go_round
          case rel => exact ⟨k + 1, by omega, by go_num, HT⟩
          case measure => simp [intOf]; omega
    · have HE : Hid (isTok (bl s) = true) := by
        show _ = _
        have := HK.out
        rw [List.take_of_length_le (by rw [len_bl]; omega)] at this
        unfold isTok
        rw [this, Bool.and_true]
        cases h : bl s with
        | nil => have := len_bl s; rw [h, List.length_nil] at this; omega
        | cons _ _ => rfl
      clear HK
      go_wp2
      go_ret
      exact ⟨by rw [HE.out]; rfl, rfl⟩

set_option maxHeartbeats 400000 in
theorem zz_tok (s : ByteArray) (w : World) (hs : s.size ≤ 4000000) :
    Calls Try.prog 15 #[.string s] w fun e w' => e = .returned (.bool (isTok (bl s))) ∧ w' = w := by
  have h := tok_any s w hs
  generalize isTok (bl s) = r at *
  have H : Hid (Calls Try.prog 17 #[.string s] w fun e w' => e = .returned (.bool r) ∧ w' = w) := h
  clear h
  go_enter Try.func15, Try.ntmps15
  go_wp2_with fail
  refine (Hid.out H : Calls _ _ _ _ _).mono ?_
  rintro e w' ⟨rfl, rfl⟩
  go_wp2
  go_ret
  exact ⟨rfl, rfl⟩

def SomeBool (e : Ending) : Prop := ∃ b : Bool, e = .returned (.bool b)

def TrueBelow (w : World) (e : Ending) (w' : World) : Prop := e = .returned (.bool true) ∧ Below w.heap.size w w'

set_option maxHeartbeats 400000 in
theorem bytes13 (s : ByteArray) (w : World) (h1 : s.size ≤ maxLen) :
    Calls Try.prog 13 #[.string s] w fun en w' => SomeBool en ∧ w' = w := by
  unfold maxLen at h1
  go_enter Try.func13, Try.ntmps13
  go_wp2
  all_goals
    go_ret
    exact ⟨⟨_, rfl⟩, rfl⟩

set_option maxHeartbeats 2000000 in
set_option maxRecDepth 100000 in
theorem law_walk (s : ByteArray) (w : World) (h1 : s.size ≤ maxLen) :
    Calls Try.prog 6 #[.string s] w fun en w' => TrueBelow w en w' := by
  have H1 : Hid (s.size ≤ maxLen) := h1
  unfold maxLen at h1
  go_enter Try.func6, Try.ntmps6
  go_wp2_with fail
  refine (bytes13 _ _ H1.out).mono ?_
  rintro en w' ⟨⟨ok0, rfl⟩, rfl⟩
  cases ok0
  · go_wp2
    go_ret
    exact ⟨rfl, Below.refl _ _⟩
  clear H1
  by_cases hs : 1048576 < (s.size : Int)
  · go_wp2
    go_ret
    exact ⟨rfl, Below.refl _ _⟩
  go_wp2
  go_loop [3, 4] (fun b i => ∃ (k : Nat) (bb : Bool), k ≤ s.size ∧ i = .int .i64 k ∧ b = .bool bb ∧ Hid (bb = (decide (0 < s.size) && ((bl s).take k).all tokB))) (fun _ i => s.size - (intOf i).toNat)
  case atStart => exact ⟨0, decide (0 < s.size), Nat.zero_le _, rfl, by first | rfl | simp, by show _ = _; simp⟩
  case round =>
    obtain ⟨k, bb, hk, rfl, rfl, HK⟩ := hrel
    by_cases hlt : k < s.size
    · have HN : Hid ((decide (0 < s.size) && ((bl s).take (k + 1)).all tokB) = (bb && goodB s[k])) := by
        show _ = _
        rw [take_next s k hlt, List.all_append, ← same s[k], HK.out]
        simp [Bool.and_assoc]
      obtain ⟨c, hc⟩ : ∃ c, s[k] = c := ⟨_, rfl⟩
      rw [hc] at HN
      have hb := UInt8.toNat_lt c
      clear HK
      rcases (show (c.toNat : Int) < 33 ∨ 126 < (c.toNat : Int) ∨ (33 ≤ (c.toNat : Int) ∧ (c.toNat : Int) ≤ 126) from by omega) with h | h | ⟨h1, h2⟩
      · have HG : Hid (false = (decide (0 < s.size) && ((bl s).take (k + 1)).all tokB)) := by
          show _ = _
          rw [HN.out]
          have : goodB c = false := by unfold goodB; rw [decide_eq_false (by omega)]; rfl
          rw [this, Bool.and_false]
        have hd : decide ((c.toNat : Int) < 33) = true := decide_eq_true h
        clear HN
        go_wp2
        go_round
        case rel => exact ⟨k + 1, false, by omega, by go_num, rfl, HG⟩
        case measure => simp [intOf]; omega
      · have HG : Hid (false = (decide (0 < s.size) && ((bl s).take (k + 1)).all tokB)) := by
          show _ = _
          rw [HN.out]
          have : goodB c = false := by unfold goodB; rw [decide_eq_false (by omega)]; rfl
          rw [this, Bool.and_false]
        have hd : decide ((c.toNat : Int) < 33) = false := decide_eq_false (by omega)
        have hd2 : decide (126 < (c.toNat : Int)) = true := decide_eq_true h
        clear HN
        go_wp2
        go_round
        case rel => exact ⟨k + 1, false, by omega, by go_num, rfl, HG⟩
        case measure => simp [intOf]; omega
      · have hd : decide ((c.toNat : Int) < 33) = false := decide_eq_false (by omega)
        have hd2 : decide (126 < (c.toNat : Int)) = false := decide_eq_false (by omega)
        have HG : Hid ((bb && !nonN (c.toNat : Int)) = (decide (0 < s.size) && ((bl s).take (k + 1)).all tokB)) := by
          show _ = _
          rw [HN.out]
          have : goodB c = !nonN (c.toNat : Int) := by unfold goodB; rw [decide_eq_true ⟨h1, h2⟩]; rfl
          rw [this]
        clear HN
        cases hnn : nonN (c.toNat : Int)
        · rw [hnn] at HG
          go_wp2_with (go_at_call 14; refine (non_any _ _).mono ?_; rintro e w' ⟨rfl, rfl⟩)
          go_round
          case rel => exact ⟨k + 1, bb, by omega, by go_num, rfl, by have := HG.out; rw [Bool.not_false, Bool.and_true] at this; exact this⟩
          case measure => simp [intOf]; omega
        · rw [hnn] at HG
          go_wp2_with (go_at_call 14; refine (non_any _ _).mono ?_; rintro e w' ⟨rfl, rfl⟩)
          go_round
          case rel => exact ⟨k + 1, false, by omega, by go_num, rfl, by have := HG.out; rw [Bool.not_true, Bool.and_false] at this; exact this⟩
          case measure => simp [intOf]; omega
    · have HE : Hid (isTok (bl s) = bb) := by
        show _ = _
        rw [HK.out, List.take_of_length_le (by rw [len_bl]; omega)]
        unfold isTok
        have := len_bl s
        cases h : bl s with
        | nil => rw [h, List.length_nil] at this; rw [decide_eq_false (by omega)]; rfl
        | cons a t => rw [h, List.length_cons] at this; rw [decide_eq_true (by omega)]; rfl
      clear HK
      go_wp2_with fail
      refine (zz_tok s _ (by omega)).mono ?_
      rw [HE.out]
      rintro en w1 ⟨rfl, rfl⟩
      go_wp2
      go_ret
      refine ⟨?_, Below.refl _ _⟩
      cases bb <;> rfl
end Go.Proofs.Qxb6603950a
