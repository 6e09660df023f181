/-
  WALKS: unescape (21), ZZunescape (10).
-/
import Derived.Test.Qxb6603439aBld
import Derived.Test.Qxb6603439aPlain
namespace Go.Proofs.Qxb6603439a
open Go.RowKit

def bl (s : ByteArray) : List UInt8 := s.data.toList

/-- is the byte among the escapes? -/
def has (e : ByteArray) (c : UInt8) : Bool := (bl e).contains c

theorem index_has : ∀ (l : List UInt8) (c : UInt8), decide (0 ≤ Lib.indexByte l c) = l.contains c
  | [], c => by simp [Lib.indexByte]
  | d :: l, c => by
    have ih := index_has l c
    have hge := Lib.indexByte_ge l c
    unfold Lib.indexByte
    rw [List.contains_cons]
    by_cases h : d = c
    · subst h; simp
    · have h1 : (d == c) = false := by simpa using h
      have h2 : (c == d) = false := by simpa using fun e : c = d => h e.symm
      rw [h1, h2, Bool.false_or, ← ih]
      by_cases h3 : Lib.indexByte l c = -1
      · simp [h3]
      · have h4 : (Lib.indexByte l c == -1) = false := by simpa using h3
        rw [h4]
        simp only [Bool.false_eq_true, if_false]
        rw [decide_eq_decide]
        omega

theorem drop_cons (s : ByteArray) (k : Nat) (h : k < s.size) : (bl s).drop k = s[k] :: (bl s).drop (k + 1) := by
  have h' : k < (bl s).length := by simpa [bl] using h
  rw [List.drop_eq_getElem_cons h']
  rfl

theorem extract_one (s : ByteArray) (k : Nat) (h : k < s.size) : s.extract k (k + 1) = ⟨#[s[k]]⟩ := by
  have e : (s.extract k (k + 1)).data = (⟨#[s[k]]⟩ : ByteArray).data := by
    apply Array.ext'
    rw [Lib.extract_data, show k + 1 - k = 1 from by omega]
    have := drop_cons s k h
    unfold bl at this
    rw [this]
    rfl
  cases hx : s.extract k (k + 1) with
  | mk a => rw [hx] at e; simp only at e; rw [e]

theorem cells_snoc (l : List UInt8) (c : UInt8) : Lib.byteCells l ++ [.int .u8 (c.toNat : Int)] = Lib.byteCells (l ++ [c]) := by simp [Lib.byteCells]

/-- what stands in memory after k bytes -/
structure UnW (s e : ByteArray) (w : World) (k : Nat) (out : List UInt8) (wr : World) : Prop where
  bld : Lib.IsBuilder 35 5 w.heap.size w.heap.size (Lib.byteCells out) wr
  below : Below w.heap.size w wr
  len : out.length ≤ k
  val : Ue.unesc (has e) (bl s) = out ++ Ue.unesc (has e) ((bl s).drop k)

theorem UnW.start (s e : ByteArray) (w : World) : UnW s e w 0 [] (w.alloc (.cells #[.pointer none, .slice none 0 0] 35)) :=
  ⟨Lib.fresh_isBuilder _ _ _, (Below.refl _ _).alloc (Nat.le_refl _) _, Nat.le_refl _, rfl⟩

/-- a byte is written -/
theorem UnW.put {s e : ByteArray} {w wr w2 : World} {k k' : Nat} {out : List UInt8} (c : UInt8) (h : UnW s e w k out wr) (hk : k < k')
    (hv : Ue.unesc (has e) ((bl s).drop k) = c :: Ue.unesc (has e) ((bl s).drop k'))
    (hat : Lib.BuilderAt 35 5 w.heap.size w.heap.size (.pointer (some ⟨w.heap.size, 0, none⟩)) (Lib.byteCells out ++ [.int .u8 (c.toNat : Int)]) w2) (hb : Below w.heap.size wr w2) : UnW s e w k' (out ++ [c]) w2 := by
  rw [cells_snoc] at hat
  refine ⟨.inr hat, h.below.trans hb, ?_, ?_⟩
  · have := h.len
    simp only [List.length_append, List.length_singleton]
    omega
  · rw [h.val, hv]; simp

theorem cells_len (l : List UInt8) : (Lib.byteCells l).length = l.length := by simp [Lib.byteCells]

set_option maxHeartbeats 2000000 in
theorem un_main (s e : ByteArray) (w : World) (hs : s.size ≤ 4000000) (hin : (bl s).contains 92 = true) :
    Calls Try.prog 21 #[.string s, .string e] w fun en w' => en = .returned (.string ⟨(Ue.unesc (has e) (bl s)).toArray⟩) ∧ Below w.heap.size w w' := by
  have hx : decide (0 ≤ Lib.indexByte s.data.toList 92) = true := by rw [index_has]; exact hin
  clear hin
  go_enter Try.func21, Try.ntmps21
  go_wp2_with fail
  refine (Try.strings_Contains_one s 92 _).mono ?_
  rintro en w' ⟨rfl, rfl⟩
  go_wp2
  clear hx
  go_loopw [6] (fun i wr => ∃ (k : Nat) (out : List UInt8), k ≤ s.size ∧ i = .int .i64 k ∧ UnW s e w' k out wr) (fun i _ => s.size - (intOf i).toNat)
  case atStart => exact ⟨0, [], Nat.zero_le _, rfl, UnW.start _ _ _⟩
  case round =>
    obtain ⟨k, out, hk, rfl, hW⟩ := hrel
    have HW : Hid (UnW s e w' k out wr) := hW
    have hl := hW.len
    have HLC : Hid ((Lib.byteCells out).length + 1 ≤ 140737488355328) := by show _ ≤ _; rw [cells_len]; omega
    clear hW
    by_cases hlt : k < s.size
    · have HD := (show Hid ((bl s).drop k = s[k] :: (bl s).drop (k + 1)) from drop_cons s k hlt)
      obtain ⟨c, hc⟩ : ∃ c, s[k] = c := ⟨_, rfl⟩
      have HC : Hid (s[k] = c) := hc
      rw [hc] at HD
      by_cases hne : c = 92
      · subst hne
        by_cases hend : k + 1 = s.size
        · have HV : Hid (Ue.unesc (has e) ((bl s).drop k) = 92 :: Ue.unesc (has e) ((bl s).drop (k + 1))) := by
            show _ = _
            rw [HD.out, List.drop_of_length_le (show (bl s).length ≤ k + 1 by simp [bl]; omega)]
            rfl
          have hb : ((k : Int) + 1 == (s.size : Int)) = true := by rw [beq_iff_eq]; omega
          clear hend HD HC
          go_wp2_with (go_at_call 26; refine (write_byte w'.heap.size w'.heap.size (Lib.byteCells out) _ _ HW.out.bld HLC.out HW.out.below.size).mono ?_; rintro en w2 ⟨rfl, hat, hbel⟩)
          go_roundw
          case rel => exact ⟨k + 1, _, by omega, by go_num, HW.out.put 92 (by omega) HV.out hat hbel⟩
          case measure => simp [intOf]; omega
        have hl2 : k + 1 < s.size := by omega
        have hb : ((k : Int) + 1 == (s.size : Int)) = false := by rw [beq_eq_false_iff_ne]; omega
        have HD2 := (show Hid ((bl s).drop (k + 1) = s[k + 1] :: (bl s).drop (k + 2)) from drop_cons s (k + 1) hl2)
        have hext := extract_one s (k + 1) hl2
        obtain ⟨d, hd⟩ : ∃ d, s[k + 1] = d := ⟨_, rfl⟩
        rw [hd] at HD2 hext
        have hext' : s.extract (k + 1) (k + 2) = ⟨#[d]⟩ := hext
        clear hext
        cases hh : has e d
        · have hx : decide (0 ≤ Lib.indexByte e.data.toList d) = false := by rw [index_has]; exact hh
          have HV : Hid (Ue.unesc (has e) ((bl s).drop k) = 92 :: Ue.unesc (has e) ((bl s).drop (k + 1))) := by
            show _ = _
            rw [HD.out, HD2.out, Ue.unesc_keep _ hh]
          clear HD HD2 HC hh hend
          go_wp2_with (first | (go_at_call 25; refine (Try.strings_Contains_one e _ _).mono ?_; rintro en w2 ⟨rfl, rfl⟩) | (go_at_call 26; refine (write_byte w'.heap.size w'.heap.size (Lib.byteCells out) _ _ HW.out.bld HLC.out HW.out.below.size).mono ?_; rintro en w2 ⟨rfl, hat, hbel⟩))
          go_roundw
          case rel => exact ⟨k + 1, _, by omega, by go_num, HW.out.put 92 (by omega) HV.out hat hbel⟩
          case measure => simp [intOf]; omega
        · have hx : decide (0 ≤ Lib.indexByte e.data.toList d) = true := by rw [index_has]; exact hh
          have HVp : Hid (Ue.unesc (has e) ((bl s).drop k) = Ue.ctrl d :: Ue.unesc (has e) ((bl s).drop (k + 2))) := by
            show _ = _
            rw [HD.out, HD2.out, Ue.unesc_pair _ hh]
          clear HD HD2 HC hh hend
          by_cases h97 : d = 97
          · subst h97
            have HV : Hid (Ue.unesc (has e) ((bl s).drop k) = 7 :: Ue.unesc (has e) ((bl s).drop (k + 2))) := HVp
            go_wp2_with (first | (go_at_call 25; refine (Try.strings_Contains_one e _ _).mono ?_; rintro en w2 ⟨rfl, rfl⟩) | (go_at_call 26; refine (write_byte w'.heap.size w'.heap.size (Lib.byteCells out) _ _ HW.out.bld HLC.out HW.out.below.size).mono ?_; rintro en w2 ⟨rfl, hat, hbel⟩))
            go_roundw
            case rel => exact ⟨k + 2, _, by omega, by go_num, HW.out.put 7 (by omega) HV.out hat hbel⟩
            case measure => simp [intOf]; omega
          by_cases h98 : d = 98
          · subst h98
            have HV : Hid (Ue.unesc (has e) ((bl s).drop k) = 8 :: Ue.unesc (has e) ((bl s).drop (k + 2))) := HVp
            go_wp2_with (first | (go_at_call 25; refine (Try.strings_Contains_one e _ _).mono ?_; rintro en w2 ⟨rfl, rfl⟩) | (go_at_call 26; refine (write_byte w'.heap.size w'.heap.size (Lib.byteCells out) _ _ HW.out.bld HLC.out HW.out.below.size).mono ?_; rintro en w2 ⟨rfl, hat, hbel⟩))
            go_roundw
            case rel => exact ⟨k + 2, _, by omega, by go_num, HW.out.put 8 (by omega) HV.out hat hbel⟩
            case measure => simp [intOf]; omega
          by_cases h102 : d = 102
          · subst h102
            have HV : Hid (Ue.unesc (has e) ((bl s).drop k) = 12 :: Ue.unesc (has e) ((bl s).drop (k + 2))) := HVp
            go_wp2_with (first | (go_at_call 25; refine (Try.strings_Contains_one e _ _).mono ?_; rintro en w2 ⟨rfl, rfl⟩) | (go_at_call 26; refine (write_byte w'.heap.size w'.heap.size (Lib.byteCells out) _ _ HW.out.bld HLC.out HW.out.below.size).mono ?_; rintro en w2 ⟨rfl, hat, hbel⟩))
            go_roundw
            case rel => exact ⟨k + 2, _, by omega, by go_num, HW.out.put 12 (by omega) HV.out hat hbel⟩
            case measure => simp [intOf]; omega
          by_cases h110 : d = 110
          · subst h110
            have HV : Hid (Ue.unesc (has e) ((bl s).drop k) = 10 :: Ue.unesc (has e) ((bl s).drop (k + 2))) := HVp
            go_wp2_with (first | (go_at_call 25; refine (Try.strings_Contains_one e _ _).mono ?_; rintro en w2 ⟨rfl, rfl⟩) | (go_at_call 26; refine (write_byte w'.heap.size w'.heap.size (Lib.byteCells out) _ _ HW.out.bld HLC.out HW.out.below.size).mono ?_; rintro en w2 ⟨rfl, hat, hbel⟩))
            go_roundw
            case rel => exact ⟨k + 2, _, by omega, by go_num, HW.out.put 10 (by omega) HV.out hat hbel⟩
            case measure => simp [intOf]; omega
          by_cases h114 : d = 114
          · subst h114
            have HV : Hid (Ue.unesc (has e) ((bl s).drop k) = 13 :: Ue.unesc (has e) ((bl s).drop (k + 2))) := HVp
            go_wp2_with (first | (go_at_call 25; refine (Try.strings_Contains_one e _ _).mono ?_; rintro en w2 ⟨rfl, rfl⟩) | (go_at_call 26; refine (write_byte w'.heap.size w'.heap.size (Lib.byteCells out) _ _ HW.out.bld HLC.out HW.out.below.size).mono ?_; rintro en w2 ⟨rfl, hat, hbel⟩))
            go_roundw
            case rel => exact ⟨k + 2, _, by omega, by go_num, HW.out.put 13 (by omega) HV.out hat hbel⟩
            case measure => simp [intOf]; omega
          by_cases h116 : d = 116
          · subst h116
            have HV : Hid (Ue.unesc (has e) ((bl s).drop k) = 9 :: Ue.unesc (has e) ((bl s).drop (k + 2))) := HVp
            go_wp2_with (first | (go_at_call 25; refine (Try.strings_Contains_one e _ _).mono ?_; rintro en w2 ⟨rfl, rfl⟩) | (go_at_call 26; refine (write_byte w'.heap.size w'.heap.size (Lib.byteCells out) _ _ HW.out.bld HLC.out HW.out.below.size).mono ?_; rintro en w2 ⟨rfl, hat, hbel⟩))
            go_roundw
            case rel => exact ⟨k + 2, _, by omega, by go_num, HW.out.put 9 (by omega) HV.out hat hbel⟩
            case measure => simp [intOf]; omega
          by_cases h118 : d = 118
          · subst h118
            have HV : Hid (Ue.unesc (has e) ((bl s).drop k) = 11 :: Ue.unesc (has e) ((bl s).drop (k + 2))) := HVp
            go_wp2_with (first | (go_at_call 25; refine (Try.strings_Contains_one e _ _).mono ?_; rintro en w2 ⟨rfl, rfl⟩) | (go_at_call 26; refine (write_byte w'.heap.size w'.heap.size (Lib.byteCells out) _ _ HW.out.bld HLC.out HW.out.below.size).mono ?_; rintro en w2 ⟨rfl, hat, hbel⟩))
            go_roundw
            case rel => exact ⟨k + 2, _, by omega, by go_num, HW.out.put 11 (by omega) HV.out hat hbel⟩
            case measure => simp [intOf]; omega
          have b97 : ((d.toNat : Int) == 97) = false := by
            rw [beq_eq_false_iff_ne]
            intro h
            exact h97 (UInt8.toNat_inj.1 (by simp; omega))
          have b98 : ((d.toNat : Int) == 98) = false := by
            rw [beq_eq_false_iff_ne]
            intro h
            exact h98 (UInt8.toNat_inj.1 (by simp; omega))
          have b102 : ((d.toNat : Int) == 102) = false := by
            rw [beq_eq_false_iff_ne]
            intro h
            exact h102 (UInt8.toNat_inj.1 (by simp; omega))
          have b110 : ((d.toNat : Int) == 110) = false := by
            rw [beq_eq_false_iff_ne]
            intro h
            exact h110 (UInt8.toNat_inj.1 (by simp; omega))
          have b114 : ((d.toNat : Int) == 114) = false := by
            rw [beq_eq_false_iff_ne]
            intro h
            exact h114 (UInt8.toNat_inj.1 (by simp; omega))
          have b116 : ((d.toNat : Int) == 116) = false := by
            rw [beq_eq_false_iff_ne]
            intro h
            exact h116 (UInt8.toNat_inj.1 (by simp; omega))
          have b118 : ((d.toNat : Int) == 118) = false := by
            rw [beq_eq_false_iff_ne]
            intro h
            exact h118 (UInt8.toNat_inj.1 (by simp; omega))
          have HV : Hid (Ue.unesc (has e) ((bl s).drop k) = d :: Ue.unesc (has e) ((bl s).drop (k + 2))) := by
            have : Ue.ctrl d = d := by unfold Ue.ctrl; simp [h97, h98, h102, h110, h114, h116, h118]
            rw [this] at HVp
            exact HVp
          clear HVp h97 h98 h102 h110 h114 h116 h118
          go_wp2_with (first | (go_at_call 25; refine (Try.strings_Contains_one e _ _).mono ?_; rintro en w2 ⟨rfl, rfl⟩) | (go_at_call 26; refine (write_byte w'.heap.size w'.heap.size (Lib.byteCells out) _ _ HW.out.bld HLC.out HW.out.below.size).mono ?_; rintro en w2 ⟨rfl, hat, hbel⟩))
          go_roundw
          case rel => exact ⟨k + 2, _, by omega, by go_num, HW.out.put d (by omega) HV.out hat hbel⟩
          case measure => simp [intOf]; omega
      · have HV : Hid (Ue.unesc (has e) ((bl s).drop k) = c :: Ue.unesc (has e) ((bl s).drop (k + 1))) := by
          show _ = _
          rw [HD.out, Ue.unesc_plain _ hne]
        have hb : ((c.toNat : Int) != 92) = true := by
          rw [bne_iff_ne]
          intro h
          exact hne (UInt8.toNat_inj.1 (by simp; omega))
        clear hne HD HC
        go_wp2_with (go_at_call 26; refine (write_byte w'.heap.size w'.heap.size (Lib.byteCells out) _ _ HW.out.bld HLC.out HW.out.below.size).mono ?_; rintro en w2 ⟨rfl, hat, hbel⟩)
        go_roundw
        case rel => exact ⟨k + 1, _, by omega, by go_num, HW.out.put c (by omega) HV.out hat hbel⟩
        case measure => simp [intOf]; omega
    · have hkl : k = s.size := by omega
      have HE : Hid (Ue.unesc (has e) (bl s) = out) := by
        show _ = _
        rw [HW.out.val, List.drop_of_length_le (show (bl s).length ≤ k by simp [bl]; omega)]
        simp [Ue.unesc]
      clear hkl
      go_wp2_with (go_at_call 27; refine (Try.Builder_String_any w'.heap.size w'.heap.size out _ HW.out.bld HW.out.below.size).mono ?_; rintro en w2 ⟨rfl, hbel⟩)
      go_ret
      refine ⟨?_, HW.out.below.trans hbel⟩
      rw [HE.out]
      rfl

set_option maxHeartbeats 400000 in
theorem un_none (s e : ByteArray) (w : World) (hin : (bl s).contains 92 = false) :
    Calls Try.prog 21 #[.string s, .string e] w fun en w' => en = .returned (.string s) ∧ w' = w := by
  have hx : decide (0 ≤ Lib.indexByte s.data.toList 92) = false := by rw [index_has]; exact hin
  clear hin
  go_enter Try.func21, Try.ntmps21
  go_wp2_with fail
  refine (Try.strings_Contains_one s 92 _).mono ?_
  rintro en w' ⟨rfl, rfl⟩
  go_wp2
  go_ret
  exact ⟨rfl, rfl⟩

/-- what unescape answers -/
def UnOk (s e : ByteArray) (w : World) (en : Ending) (w' : World) : Prop := en = .returned (.string ⟨(Ue.unesc (has e) (bl s)).toArray⟩) ∧ Below w.heap.size w w'

theorem un_any (s e : ByteArray) (w : World) (hs : s.size ≤ 4000000) : Calls Try.prog 21 #[.string s, .string e] w fun en w' => UnOk s e w en w' := by
  cases hin : (bl s).contains 92
  · refine (un_none s e w hin).mono ?_
    rintro en w' ⟨rfl, rfl⟩
    refine ⟨?_, Below.refl _ _⟩
    have : Ue.unesc (has e) (bl s) = bl s := Ue.unesc_none _ (fun c hc h => by
      subst h
      rw [← List.contains_iff_mem, hin] at hc
      cases hc)
    rw [this]
    rfl
  · exact un_main s e w hs hin

set_option maxHeartbeats 400000 in
theorem zz_un (s e : ByteArray) (w : World) (hs : s.size ≤ 4000000) : Calls Try.prog 10 #[.string s, .string e] w fun en w' => UnOk s e w en w' := by
  have H : Hid (Calls Try.prog 21 #[.string s, .string e] w fun en w' => UnOk s e w en w') := un_any s e w hs
  go_enter Try.func10, Try.ntmps10
  go_wp2_with fail
  refine (Hid.out H : Calls _ _ _ _ _).mono ?_
  rintro en w' ⟨rfl, hb⟩
  go_wp2
  go_ret
  exact ⟨rfl, hb⟩
end Go.Proofs.Qxb6603439a
