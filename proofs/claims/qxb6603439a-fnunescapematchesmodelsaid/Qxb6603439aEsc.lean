/-
  WALKS: zzControlOf (22), zzLetterOf (23), zzEscapeModel (14).
-/
import Derived.Test.Qxb6603439aUn
import Derived.Test.Qxb6603439aSet
import Derived.Lib.AppendStr
import Derived.Lib.BufferRead
import Derived.Laws.IdiomStrings
import Derived.OwnWalk
namespace Go.Proofs.Qxb6603439a
open Go.RowKit

set_option maxHeartbeats 1000000 in
set_option maxRecDepth 100000 in
theorem letter_of (c : UInt8) (w : World) :
    Calls Try.prog 23 #[.int .u8 (c.toNat : Int)] w fun e w' => e = .returned (.int .u8 ((Ue.letter c).toNat : Int)) ∧ w' = w := by
  by_cases h7 : c = 7
  · subst h7
    show Calls Try.prog 23 #[.int .u8 7] w fun e w' => e = .returned (.int .u8 97) ∧ w' = w
    go_enter Try.func23, Try.ntmps23
    go_wp2
    go_ret
    exact ⟨rfl, rfl⟩
  by_cases h8 : c = 8
  · subst h8
    show Calls Try.prog 23 #[.int .u8 8] w fun e w' => e = .returned (.int .u8 98) ∧ w' = w
    go_enter Try.func23, Try.ntmps23
    go_wp2
    go_ret
    exact ⟨rfl, rfl⟩
  by_cases h9 : c = 9
  · subst h9
    show Calls Try.prog 23 #[.int .u8 9] w fun e w' => e = .returned (.int .u8 116) ∧ w' = w
    go_enter Try.func23, Try.ntmps23
    go_wp2
    go_ret
    exact ⟨rfl, rfl⟩
  by_cases h10 : c = 10
  · subst h10
    show Calls Try.prog 23 #[.int .u8 10] w fun e w' => e = .returned (.int .u8 110) ∧ w' = w
    go_enter Try.func23, Try.ntmps23
    go_wp2
    go_ret
    exact ⟨rfl, rfl⟩
  by_cases h11 : c = 11
  · subst h11
    show Calls Try.prog 23 #[.int .u8 11] w fun e w' => e = .returned (.int .u8 118) ∧ w' = w
    go_enter Try.func23, Try.ntmps23
    go_wp2
    go_ret
    exact ⟨rfl, rfl⟩
  by_cases h12 : c = 12
  · subst h12
    show Calls Try.prog 23 #[.int .u8 12] w fun e w' => e = .returned (.int .u8 102) ∧ w' = w
    go_enter Try.func23, Try.ntmps23
    go_wp2
    go_ret
    exact ⟨rfl, rfl⟩
  by_cases h13 : c = 13
  · subst h13
    show Calls Try.prog 23 #[.int .u8 13] w fun e w' => e = .returned (.int .u8 114) ∧ w' = w
    go_enter Try.func23, Try.ntmps23
    go_wp2
    go_ret
    exact ⟨rfl, rfl⟩
  have b7 : ((c.toNat : Int) == 7) = false := by
    rw [beq_eq_false_iff_ne]
    intro h
    exact h7 (UInt8.toNat_inj.1 (by simp; omega))
  have b8 : ((c.toNat : Int) == 8) = false := by
    rw [beq_eq_false_iff_ne]
    intro h
    exact h8 (UInt8.toNat_inj.1 (by simp; omega))
  have b9 : ((c.toNat : Int) == 9) = false := by
    rw [beq_eq_false_iff_ne]
    intro h
    exact h9 (UInt8.toNat_inj.1 (by simp; omega))
  have b10 : ((c.toNat : Int) == 10) = false := by
    rw [beq_eq_false_iff_ne]
    intro h
    exact h10 (UInt8.toNat_inj.1 (by simp; omega))
  have b11 : ((c.toNat : Int) == 11) = false := by
    rw [beq_eq_false_iff_ne]
    intro h
    exact h11 (UInt8.toNat_inj.1 (by simp; omega))
  have b12 : ((c.toNat : Int) == 12) = false := by
    rw [beq_eq_false_iff_ne]
    intro h
    exact h12 (UInt8.toNat_inj.1 (by simp; omega))
  have b13 : ((c.toNat : Int) == 13) = false := by
    rw [beq_eq_false_iff_ne]
    intro h
    exact h13 (UInt8.toNat_inj.1 (by simp; omega))
  have HE : Hid (Ue.letter c = 0) := by
    show _ = _
    unfold Ue.letter
    simp [h7, h8, h9, h10, h11, h12, h13]
  clear h7 h8 h9 h10 h11 h12 h13
  go_enter Try.func23, Try.ntmps23
  go_wp2
  go_ret
  refine ⟨?_, rfl⟩
  rw [HE.out]
  rfl

set_option maxHeartbeats 1000000 in
set_option maxRecDepth 100000 in
theorem control_of (c : UInt8) (w : World) :
    Calls Try.prog 22 #[.int .u8 (c.toNat : Int)] w fun e w' => e = .returned (.int .u8 ((Ue.control c).toNat : Int)) ∧ w' = w := by
  by_cases h97 : c = 97
  · subst h97
    show Calls Try.prog 22 #[.int .u8 97] w fun e w' => e = .returned (.int .u8 7) ∧ w' = w
    go_enter Try.func22, Try.ntmps22
    go_wp2
    go_ret
    exact ⟨rfl, rfl⟩
  by_cases h98 : c = 98
  · subst h98
    show Calls Try.prog 22 #[.int .u8 98] w fun e w' => e = .returned (.int .u8 8) ∧ w' = w
    go_enter Try.func22, Try.ntmps22
    go_wp2
    go_ret
    exact ⟨rfl, rfl⟩
  by_cases h116 : c = 116
  · subst h116
    show Calls Try.prog 22 #[.int .u8 116] w fun e w' => e = .returned (.int .u8 9) ∧ w' = w
    go_enter Try.func22, Try.ntmps22
    go_wp2
    go_ret
    exact ⟨rfl, rfl⟩
  by_cases h110 : c = 110
  · subst h110
    show Calls Try.prog 22 #[.int .u8 110] w fun e w' => e = .returned (.int .u8 10) ∧ w' = w
    go_enter Try.func22, Try.ntmps22
    go_wp2
    go_ret
    exact ⟨rfl, rfl⟩
  by_cases h118 : c = 118
  · subst h118
    show Calls Try.prog 22 #[.int .u8 118] w fun e w' => e = .returned (.int .u8 11) ∧ w' = w
    go_enter Try.func22, Try.ntmps22
    go_wp2
    go_ret
    exact ⟨rfl, rfl⟩
  by_cases h102 : c = 102
  · subst h102
    show Calls Try.prog 22 #[.int .u8 102] w fun e w' => e = .returned (.int .u8 12) ∧ w' = w
    go_enter Try.func22, Try.ntmps22
    go_wp2
    go_ret
    exact ⟨rfl, rfl⟩
  by_cases h114 : c = 114
  · subst h114
    show Calls Try.prog 22 #[.int .u8 114] w fun e w' => e = .returned (.int .u8 13) ∧ w' = w
    go_enter Try.func22, Try.ntmps22
    go_wp2
    go_ret
    exact ⟨rfl, rfl⟩
  have b97 : ((c.toNat : Int) == 97) = false := by
    rw [beq_eq_false_iff_ne]
    intro h
    exact h97 (UInt8.toNat_inj.1 (by simp; omega))
  have b98 : ((c.toNat : Int) == 98) = false := by
    rw [beq_eq_false_iff_ne]
    intro h
    exact h98 (UInt8.toNat_inj.1 (by simp; omega))
  have b116 : ((c.toNat : Int) == 116) = false := by
    rw [beq_eq_false_iff_ne]
    intro h
    exact h116 (UInt8.toNat_inj.1 (by simp; omega))
  have b110 : ((c.toNat : Int) == 110) = false := by
    rw [beq_eq_false_iff_ne]
    intro h
    exact h110 (UInt8.toNat_inj.1 (by simp; omega))
  have b118 : ((c.toNat : Int) == 118) = false := by
    rw [beq_eq_false_iff_ne]
    intro h
    exact h118 (UInt8.toNat_inj.1 (by simp; omega))
  have b102 : ((c.toNat : Int) == 102) = false := by
    rw [beq_eq_false_iff_ne]
    intro h
    exact h102 (UInt8.toNat_inj.1 (by simp; omega))
  have b114 : ((c.toNat : Int) == 114) = false := by
    rw [beq_eq_false_iff_ne]
    intro h
    exact h114 (UInt8.toNat_inj.1 (by simp; omega))
  have HE : Hid (Ue.control c = 0) := by
    show _ = _
    unfold Ue.control
    simp [h97, h98, h116, h110, h118, h102, h114]
  clear h97 h98 h116 h110 h118 h102 h114
  go_enter Try.func22, Try.ntmps22
  go_wp2
  go_ret
  refine ⟨?_, rfl⟩
  rw [HE.out]
  rfl

theorem own_app {w : World} {B : Nat} {v : Value} {l x : List UInt8} {m : Nat} {news : List Value} (h : w.ownsRow B 5 1 v (l.length + m) (Lib.byteCells l ++ news)) (e : news = Lib.byteCells x) (hm : x.length = m) : w.ownsRow B 5 1 v (l ++ x).length (Lib.byteCells (l ++ x)) := by
  subst e hm
  rw [List.length_append, Lib.byteCells_append]
  exact h

theorem own_base {w : World} {base : Nat} {e : TypeId} {size : Nat} {v : Value} {n : Nat} {xs : List Value} (h : w.ownsRow base e size v n xs) : ∀ k, v.ownBlock = some k → base ≤ k := fun k hk => (h.lt k hk).1

/-- string(buf) -/
theorem conv_own {w : World} {B : Nat} {v : Value} {l : List UInt8} (h : w.ownsRow B 5 1 v l.length (Lib.byteCells l)) : (convert 31 9 v).run Try.prog w = .ok (.string ⟨l.toArray⟩) w := by
  rcases h.2 with ⟨rfl, h0⟩ | ⟨g, cap, cur, rfl, _⟩
  · have : l = [] := List.eq_nil_of_length_eq_zero h0
    subst this
    exact Lib.run_convert_nil_bytes w 31 9 5 0 Try.underlying31 Try.underlying5 Try.underlying9
  · refine run_convert_bytes_back w 31 9 5 ⟨g, 0, none⟩ cap l Try.underlying31 Try.underlying5 Try.underlying9 fun j hj => ?_
    exact h.cells (g := g) rfl j _ (by simp [Lib.byteCells, hj])

theorem take_next (s : ByteArray) (k : Nat) (h : k < s.size) : (bl s).take (k + 1) = (bl s).take k ++ [s[k]] := by
  rw [List.take_succ_eq_append_getElem (by simpa [bl] using h)]
  rfl

/-- what zzEscapeModel answers -/
def EscOk (s e : ByteArray) (w : World) (en : Ending) (w' : World) : Prop := en = .returned (.string ⟨(Ue.escAll (has e) (bl s)).toArray⟩) ∧ Below w.heap.size w w'

set_option maxHeartbeats 2000000 in
set_option maxRecDepth 100000 in
theorem esc_any (s e : ByteArray) (w : World) (hs : s.size ≤ 1048576) (he : e.size ≤ 4000000) : Calls Try.prog 14 #[.string s, .string e] w fun en w' => EscOk s e w en w' := by
  obtain ⟨i0, hi, hz0, hz1, hz2⟩ := info_parts info5
  have HI : Hid (Try.prog.info? 5 = some i0) := hi
  have HZ0 : Hid (i0.zero = some (.int .u8 0)) := hz0
  have HZ1 : Hid (i0.size = 1) := hz1
  have HZ2 : Hid (i0.bytes = 1) := hz2
  clear hi hz0 hz1 hz2
  go_enter Try.func14, Try.ntmps14
  go_wp2_with fail
  refine (set_any e _ he).mono ?_
  rintro en w1 ⟨rfl, hb1⟩
  have hzv := (zero_of_info info24).1
  have HB1 : Hid (Below w.heap.size w w1) := hb1
  have HSZ : Hid ((Lib.setCells e.data.toList).size = 256) := Lib.setCells_size _
  have HO : Hid ((Lib.setCells e.data.toList).all (·.oneCell') = true) := Lib.setCells_one _
  have HAT : Hid (∀ x : UInt8, (Lib.setCells e.data.toList)[x.toNat]? = some (.bool (has e x))) := fun x => Lib.setCells_at _ x
  generalize Lib.setCells e.data.toList = C at *
  clear hb1
  have HCL : Hid (∀ x : UInt8, (w1.alloc (.cells C 24)).cell? ⟨w1.heap.size, x.toNat, none⟩ = some (.bool (has e x))) := fun x => by
    rw [cell_of_row _ _ _ _ _ _ (heap_alloc_new _ _)]
    exact HAT.out x
  have HB2 : Hid (Below w.heap.size w (w1.alloc (.cells C 24))) := HB1.out.alloc HB1.out.size _
  have HL2 : Hid (w1.heap.size < (w1.alloc (.cells C 24)).heap.size) := by show _ < _; simp
  go_wp2_with (first
    | (refine wpList_store_row rfl 24 (.tmp 5) (.tmp 11) rfl w1.heap.size C rfl rfl 24 _ (heap_alloc_new _ _) (by rw [HSZ.out]; exact size24) (by rw [Array.size_replicate, HSZ.out]) HO.out ?_; rw [World.setRow_alloc_new]; clear hzv; generalize w1.alloc (.cells C 24) = w2 at *)
    | (at_make; refine wpList_make_own _ rfl _ _ 31 rfl w2.heap.size 5 i0 (.int .u8 0) 1 Try.underlying31 HI.out HZ0.out HZ1.out _ _ _ (2 * s.size) rfl rfl (by omega) (by rw [HZ2.out]; omega) (by unfold maxLen; omega) (Nat.le_refl _) ?_; intro w3 hown3 hgrow3))
  have hB3 : Below w2.heap.size w2 w3 := (Below.refl _ _).grown hgrow3 (Nat.le_refl _) (by simp)
  clear hgrow3
  go_loopw [6, 7] (fun v i wr => ∃ k : Nat, k ≤ s.size ∧ i = .int .i64 k ∧ wr.ownsRow w2.heap.size 5 1 v (Ue.escAll (has e) ((bl s).take k)).length (Lib.byteCells (Ue.escAll (has e) ((bl s).take k))) ∧ Below w2.heap.size w2 wr) (fun _ i _ => s.size - (intOf i).toNat)
  case atStart => exact ⟨0, Nat.zero_le _, rfl, hown3, hB3⟩
  case round =>
    clear hown3 hB3
    obtain ⟨k, hk, rfl, hown, hB⟩ := hrel
    have hlen := Ue.escAll_len (esc := has e) ((bl s).take k)
    have hlt2 := List.length_take_le k (bl s)
    by_cases hlt : k < s.size
    · have HNX := (show Hid (Ue.escAll (has e) ((bl s).take (k + 1)) = Ue.escAll (has e) ((bl s).take k) ++ Ue.esc1 (has e) s[k]) from by rw [take_next s k hlt, Ue.escAll_snoc]; rfl)
      have hcl := HCL.out (Ue.letter s[k])
      have hcl2 := (hB.cell (p := ⟨w1.heap.size, (Ue.letter s[k]).toNat, none⟩) HL2.out).trans hcl
      obtain ⟨c, hc⟩ : ∃ c, s[k] = c := ⟨_, rfl⟩
      rw [hc] at HNX hcl2
      have hx : ((Ue.letter c).toNat : Int) < 256 := by have := UInt8.toNat_lt (Ue.letter c); omega
      clear hcl
      generalize Ue.escAll (has e) ((bl s).take k) = L at *
      by_cases h92 : c = 92
      · subst h92
        have HN1 : Hid (Ue.esc1 (has e) 92 = [92, 92]) := rfl
        rw [HN1.out] at HNX
        clear HN1 hcl2 hx
        go_wp2_with (at_builtin; refine wpList_append_own _ rfl (.tmp 27) (.tmp 28) 31 rfl w2.heap.size 5 i0 (.int .u8 0) 1 1 Try.underlying31 HI.out HZ0.out HZ1.out HZ2.out rfl (by decide) _ _ _ rfl (hown.alloc _) ⟨wr.heap.size, 0, none⟩ 2 2 [.int .u8 92, .int .u8 92] rfl rfl (cell_two_new _ _ _ _) (by intro u hu; simp at hu; rcases hu with rfl | rfl <;> rfl) (by unfold maxLen; omega) (by omega) (by have := hB.size; simp; omega) ?_; intro v4 w4 hown4 hgrow4 hnil4)
        have hB4 : Below w2.heap.size w2 w4 := (hB.alloc hB.size _).grown hgrow4 (by have := hB.size; simp; omega) (own_base hown)
        have hown5 : w4.ownsRow w2.heap.size 5 1 v4 (Ue.escAll (has e) ((bl s).take (k + 1))).length (Lib.byteCells (Ue.escAll (has e) ((bl s).take (k + 1)))) := by
          rw [HNX.out]
          exact own_app hown4 rfl rfl
        clear hown4 hgrow4 hnil4 hown hB
        go_wp2
        go_roundw
        case rel => exact ⟨k + 1, by omega, by go_num, hown5, hB4⟩
        case measure => simp [intOf]; omega
      have b92 : ((c.toNat : Int) == 92) = false := by
        rw [beq_eq_false_iff_ne]
        intro h
        exact h92 (UInt8.toNat_inj.1 (by simp; omega))
      by_cases hl0 : Ue.letter c = 0
      · have HN1 : Ue.esc1 (has e) c = [c] := by unfold Ue.esc1; rw [if_neg h92, if_neg (fun h => h.1 hl0)]
        rw [HN1] at HNX
        have hz : ((Ue.letter c).toNat : Int) = 0 := by rw [hl0]; rfl
        clear HN1 hcl2 hl0 h92 hx
        go_wp2_with (first | (go_at_call 23; refine (letter_of c _).mono ?_; rintro en w5 ⟨rfl, hw5⟩; rw [hw5]; clear hw5) | (at_builtin; refine wpList_append_own _ rfl (.tmp 43) (.tmp 45) 31 rfl w2.heap.size 5 i0 (.int .u8 0) 1 1 Try.underlying31 HI.out HZ0.out HZ1.out HZ2.out rfl (by decide) _ _ _ rfl (hown.alloc _) ⟨wr.heap.size, 0, none⟩ 1 1 [.int .u8 (c.toNat : Int)] rfl rfl (cell_one_new _ _ _) (by intro u hu; simp at hu; subst hu; rfl) (by unfold maxLen; omega) (by omega) (by have := hB.size; simp; omega) ?_; intro v4 w4 hown4 hgrow4 hnil4))
        have hB4 : Below w2.heap.size w2 w4 := (hB.alloc hB.size _).grown hgrow4 (by have := hB.size; simp; omega) (own_base hown)
        have hown5 : w4.ownsRow w2.heap.size 5 1 v4 (Ue.escAll (has e) ((bl s).take (k + 1))).length (Lib.byteCells (Ue.escAll (has e) ((bl s).take (k + 1)))) := by
          rw [HNX.out]
          exact own_app hown4 rfl rfl
        clear hown4 hgrow4 hnil4 hown hB
        go_wp2
        go_roundw
        case rel => exact ⟨k + 1, by omega, by go_num, hown5, hB4⟩
        case measure => simp [intOf]; omega
      have hnz : (((Ue.letter c).toNat : Int) != 0) = true := by
        rw [bne_iff_ne]
        intro h
        exact hl0 (UInt8.toNat_inj.1 (by simp; omega))
      cases hh : has e (Ue.letter c)
      · have HN1 : Ue.esc1 (has e) c = [c] := by unfold Ue.esc1; rw [if_neg h92, if_neg (fun h => by rw [hh] at h; exact absurd h.2 (by simp))]
        rw [HN1] at HNX
        rw [hh] at hcl2
        clear HN1 hl0 h92 hh
        go_wp2_with (first | (go_at_call 23; refine (letter_of c _).mono ?_; rintro en w5 ⟨rfl, hw5⟩; rw [hw5]; clear hw5) | (at_builtin; refine wpList_append_own _ rfl (.tmp 43) (.tmp 45) 31 rfl w2.heap.size 5 i0 (.int .u8 0) 1 1 Try.underlying31 HI.out HZ0.out HZ1.out HZ2.out rfl (by decide) _ _ _ rfl (hown.alloc _) ⟨wr.heap.size, 0, none⟩ 1 1 [.int .u8 (c.toNat : Int)] rfl rfl (cell_one_new _ _ _) (by intro u hu; simp at hu; subst hu; rfl) (by unfold maxLen; omega) (by omega) (by have := hB.size; simp; omega) ?_; intro v4 w4 hown4 hgrow4 hnil4))
        have hB4 : Below w2.heap.size w2 w4 := (hB.alloc hB.size _).grown hgrow4 (by have := hB.size; simp; omega) (own_base hown)
        have hown5 : w4.ownsRow w2.heap.size 5 1 v4 (Ue.escAll (has e) ((bl s).take (k + 1))).length (Lib.byteCells (Ue.escAll (has e) ((bl s).take (k + 1)))) := by
          rw [HNX.out]
          exact own_app hown4 rfl rfl
        clear hown4 hgrow4 hnil4 hown hB
        go_wp2
        go_roundw
        case rel => exact ⟨k + 1, by omega, by go_num, hown5, hB4⟩
        case measure => simp [intOf]; omega
      · have HN1 : Ue.esc1 (has e) c = [92, Ue.letter c] := by unfold Ue.esc1; rw [if_neg h92, if_pos ⟨hl0, hh⟩]
        rw [HN1] at HNX
        rw [hh] at hcl2
        clear HN1 hl0 h92 hh
        go_wp2_with (first | (go_at_call 23; refine (letter_of c _).mono ?_; rintro en w5 ⟨rfl, hw5⟩; rw [hw5]; clear hw5) | (at_builtin; refine wpList_append_own _ rfl (.tmp 39) (.tmp 41) 31 rfl w2.heap.size 5 i0 (.int .u8 0) 1 1 Try.underlying31 HI.out HZ0.out HZ1.out HZ2.out rfl (by decide) _ _ _ rfl (hown.alloc _) ⟨wr.heap.size, 0, none⟩ 2 2 [.int .u8 92, .int .u8 ((Ue.letter c).toNat : Int)] rfl rfl (cell_two_new _ _ _ _) (by intro u hu; simp at hu; rcases hu with rfl | rfl <;> rfl) (by unfold maxLen; omega) (by omega) (by have := hB.size; simp; omega) ?_; intro v4 w4 hown4 hgrow4 hnil4))
        have hB4 : Below w2.heap.size w2 w4 := (hB.alloc hB.size _).grown hgrow4 (by have := hB.size; simp; omega) (own_base hown)
        have hown5 : w4.ownsRow w2.heap.size 5 1 v4 (Ue.escAll (has e) ((bl s).take (k + 1))).length (Lib.byteCells (Ue.escAll (has e) ((bl s).take (k + 1)))) := by
          rw [HNX.out]
          exact own_app hown4 rfl rfl
        clear hown4 hgrow4 hnil4 hown hB
        go_wp2
        go_roundw
        case rel => exact ⟨k + 1, by omega, by go_num, hown5, hB4⟩
        case measure => simp [intOf]; omega
    · have e1 : (bl s).take k = bl s := List.take_of_length_le (by simp [bl]; omega)
      rw [e1] at hown
      have hconv := conv_own hown
      have HBF : Hid (Below w.heap.size w wr) := HB2.out.trans (hB.mono HB2.out.size)
      clear hown hB e1 hlen hlt2
      go_wp2
      go_ret
      exact ⟨rfl, HBF.out⟩
end Go.Proofs.Qxb6603439a
