/-
  THE LAW's WALK: FnUnescapeInvertsEscape (4).
-/
import Derived.Test.Qxb6603439aEsc
namespace Go.Proofs.Qxb6603439a
open Go.RowKit
namespace Iv

def SomeBool (e : Ending) : Prop := ∃ b : Bool, e = .returned (.bool b)

def TrueBelow (w : World) (e : Ending) (w' : World) : Prop := e = .returned (.bool true) ∧ Below w.heap.size w w'

set_option maxHeartbeats 400000 in
theorem bytes12 (s e : ByteArray) (w : World) (h1 : s.size ≤ maxLen) (h2 : e.size ≤ maxLen) :
    Calls Try.prog 12 #[.string s, .string e] w fun en w' => SomeBool en ∧ w' = w := by
  unfold maxLen at h1 h2
  go_enter Try.func12, Try.ntmps12
  go_wp2
  all_goals
    go_ret
    exact ⟨⟨_, rfl⟩, rfl⟩

set_option maxHeartbeats 1000000 in
set_option maxRecDepth 100000 in
theorem inv_walk (s e : ByteArray) (w : World) (h1 : s.size ≤ maxLen) (h2 : e.size ≤ maxLen) :
    Calls Try.prog 4 #[.string s, .string e] w fun en w' => TrueBelow w en w' := by
  have H1 : Hid (s.size ≤ maxLen) := h1
  have H2 : Hid (e.size ≤ maxLen) := h2
  unfold maxLen at h1 h2
  go_enter Try.func4, Try.ntmps4
  go_wp2_with fail
  refine (bytes12 _ _ _ H1.out H2.out).mono ?_
  rintro en w' ⟨⟨ok0, rfl⟩, rfl⟩
  cases ok0
  · go_wp2
    go_ret
    exact ⟨rfl, Below.refl _ _⟩
  clear H1 H2
  by_cases hs : 262144 < (s.size : Int)
  · have hd : decide ((262144 : Int) < (s.size : Int)) = true := decide_eq_true hs
    go_wp2
    go_ret
    exact ⟨rfl, Below.refl _ _⟩
  have hd1 : decide ((262144 : Int) < (s.size : Int)) = false := decide_eq_false hs
  by_cases he : 262144 < (e.size : Int)
  · have hd : decide ((262144 : Int) < (e.size : Int)) = true := decide_eq_true he
    go_wp2
    go_ret
    exact ⟨rfl, Below.refl _ _⟩
  have hd2 : decide ((262144 : Int) < (e.size : Int)) = false := decide_eq_false he
  go_wp2_with fail
  refine (set_any e _ (by omega)).mono ?_
  rintro en w1 ⟨rfl, hb1⟩
  have hzv := (zero_of_info info24).1
  have HB1 : Hid (Below w'.heap.size w' w1) := hb1
  have HSZ : Hid ((Lib.setCells e.data.toList).size = 256) := Lib.setCells_size _
  have HO : Hid ((Lib.setCells e.data.toList).all (·.oneCell') = true) := Lib.setCells_one _
  have HAT : Hid (∀ x : UInt8, (Lib.setCells e.data.toList)[x.toNat]? = some (.bool (has e x))) := fun x => Lib.setCells_at _ x
  generalize Lib.setCells e.data.toList = C at *
  clear hb1
  have HCL : Hid ((w1.alloc (.cells C 24)).cell? ⟨w1.heap.size, 92, none⟩ = some (.bool (has e 92))) := by
    show _ = _
    rw [cell_of_row _ _ _ _ _ _ (heap_alloc_new _ _)]
    exact HAT.out 92
  have HB2 : Hid (Below w'.heap.size w' (w1.alloc (.cells C 24))) := HB1.out.alloc HB1.out.size _
  cases hh : has e 92
  · rw [hh] at HCL
    go_wp2_with (refine wpList_store_row rfl 24 (.tmp 5) (.tmp 19) rfl w1.heap.size C rfl rfl 24 _ (heap_alloc_new _ _) (by rw [HSZ.out]; exact size24) (by rw [Array.size_replicate, HSZ.out]) HO.out ?_; rw [World.setRow_alloc_new]; clear hzv; have hcl := HCL.out; generalize w1.alloc (.cells C 24) = w2 at *)
    go_ret
    exact ⟨rfl, HB2.out⟩
  · rw [hh] at HCL
    have HU : Hid (Ue.unesc (has e) (Ue.escAll (has e) (bl s)) = bl s) := Ue.unesc_escAll hh _
    have hln := Ue.escAll_len (esc := has e) (bl s)
    have hbl : (bl s).length = s.size := by simp [bl]
    clear hh
    go_wp2_with (refine wpList_store_row rfl 24 (.tmp 5) (.tmp 19) rfl w1.heap.size C rfl rfl 24 _ (heap_alloc_new _ _) (by rw [HSZ.out]; exact size24) (by rw [Array.size_replicate, HSZ.out]) HO.out ?_; rw [World.setRow_alloc_new]; clear hzv; have hcl := HCL.out; generalize w1.alloc (.cells C 24) = w2 at *)
    refine (esc_any s e _ (by omega) (by omega)).mono ?_
    rintro en w3 ⟨rfl, hb3⟩
    have HB3 : Hid (Below w'.heap.size w' w3) := HB2.out.trans (hb3.mono HB2.out.size)
    obtain ⟨x, hx⟩ : ∃ x : ByteArray, (⟨(Ue.escAll (has e) (bl s)).toArray⟩ : ByteArray) = x := ⟨_, rfl⟩
    have hbx : bl x = Ue.escAll (has e) (bl s) := by rw [← hx]; rfl
    have hsx : x.size ≤ 4000000 := by
      have : (bl x).length = x.size := by simp [bl]
      rw [← this, hbx]; omega
    have HU2 : Hid (Ue.unesc (has e) (bl x) = bl s) := by show _ = _; rw [hbx]; exact HU.out
    rw [hx]
    clear hx hbx hb3 HU hcl HCL
    go_wp2_with fail
    refine (zz_un x e _ hsx).mono ?_
    rintro en w4 ⟨rfl, hb4⟩
    rw [HU2.out]
    have HB4 : Hid (Below w'.heap.size w' w4) := HB3.out.trans (hb4.mono HB3.out.size)
    have hes : (⟨(bl s).toArray⟩ : ByteArray) = s := rfl
    rw [hes]
    clear hb4 hes
    go_wp2
    go_ret
    refine ⟨?_, HB4.out⟩
    simp
end Iv
end Go.Proofs.Qxb6603439a
