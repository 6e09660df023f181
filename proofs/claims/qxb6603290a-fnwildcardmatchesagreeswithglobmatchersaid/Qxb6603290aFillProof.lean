/-
  THE STATEMENT 'Rows.FnWildcardMatchesEveryFillingSaid' PROVED: the row round the law's walk.
-/
import Derived.Test.Qxb6603290aRows
import Derived.Test.Qxb6603290aFill
import Derived.WalkKit
import Derived.ProofKit
import Derived.OpenShut
import Derived.ShutString
import Derived.ChangeOld
import Derived.Below
import Derived.HandedShaped
import Derived.SliceStrings
namespace Go.Proofs.Qxb6603290a
open Go.ChangeShapes Go.WideShapes Go.ChangeAt Go.RowKit

theorem own : ownKnob Try.prog.godebug = none := by kernel_rfl
theorem laidOut : laidOutB Try.prog = true := by kernel_rfl
theorem cells9 : Try.prog.cellsOf 9 = 1 := by kernel_rfl

theorem lt_of_cell {W : World} {b o : Nat} {v : Value} (h : W.cell? ⟨b, o, none⟩ = some v) : b < W.heap.size := by
  rcases Nat.lt_or_ge b W.heap.size with hl | hl
  · exact hl
  · have : W.heap[b]? = none := Array.getElem?_eq_none hl
    simp [World.cell?, this] at h

/-- an argument of type []string as the walks ask it -/
theorem strs_of {H : Type} {enc : TypeId × Value → H} {W : World} {a0 : Option Addr} {len cap : Nat} {d : DataW H} {p : List MemPlace}
    (h : DataW.Trod enc Try.prog W 0 (fun _ => true) true 22 (.slice a0 len cap) d p) : ∃ ss : List ByteArray, ss.length = len ∧ Strs W a0 ss := by
  obtain ⟨fuel, hf⟩ := h
  rcases open_strings Try.underlying22 Try.underlying9 cells9 hf with ⟨hcs, _⟩ | ⟨x, l, c, ss, hcs, _, hl, hm, hz, _, hcell, hws⟩
  · simp [Value.cells] at hcs
    obtain ⟨rfl, rfl, rfl⟩ := hcs
    refine ⟨[], rfl, by simp [maxLen], fun i => ?_, fun h => by simp at h⟩
    show (0 : Nat) ≤ _
    exact Nat.zero_le _
  · simp [Value.cells] at hcs
    obtain ⟨rfl, rfl, rfl⟩ := hcs
    have hz' : ss.length = cap := by simpa using hz
    have hlen : (ss.take len).length = len := by rw [List.length_take]; omega
    have hg : ∀ i, i < len → (ss.take len).getD i ByteArray.empty = ss.getD i ByteArray.empty := by
      intro i hi
      rw [List.getD_eq_getElem?_getD, List.getD_eq_getElem?_getD, List.getElem?_take, if_pos hi]
    refine ⟨ss.take len, hlen, by rw [hlen]; omega, fun i => ?_, fun h => ?_⟩
    · by_cases hi : i < len
      · rw [hg i hi]
        have hi' : i < ss.length := by omega
        rw [List.getD_eq_getElem?_getD, List.getElem?_eq_getElem hi']
        exact hws _ (List.getElem_mem hi')
      · rw [List.getD_eq_getElem?_getD, List.getElem?_eq_none (by omega)]
        show (0 : Nat) ≤ _
        exact Nat.zero_le _
    · rw [hlen] at h
      obtain ⟨b, off, spot⟩ := x
      have hspot : spot = none := by simpa [Addr.add] using World.cell?_spot (hcell 0 (by omega))
      subst hspot
      have hc : ∀ i, i < ss.length → W.cell? ⟨b, off + i, none⟩ = some (.string (ss.getD i ByteArray.empty)) := fun j hj => by rw [← add_plain]; exact hcell j hj
      refine ⟨b, off, rfl, ?_, fun i hi => ?_⟩
      · exact lt_of_cell (hc 0 (by omega))
      · rw [hlen] at hi
        rw [hg i hi]
        exact hc i (by omega)

set_option maxRecDepth 100000 in
theorem fill_lifted (os : Os) (started : os.Started) (H : Type) (enc : TypeId × Value → H) :
    ReturnsInHanded {} Try.checked os 4 .any (Rows.fnWildcardMatchesEveryFillingSpec.pre6 enc Try.prog Try.f4 Rows.fnWildcardMatchesEveryFillingRow.domain false) (Rows.fnWildcardMatchesEveryFillingSpec.post enc Try.prog Try.f4 false true false false) := by
  refine returnsInHanded_of_change_shaped (C := Try.checked) own started (by kernel_rfl) Try.func4
    (ChangeSpec.witness6 (enc := enc) (C := Try.checked) false ⟨#[], #[.slice none 0 0, .slice none 0 0], []⟩ 8 (by kernel_rfl) (by kernel_rfl) (by kernel_rfl) (by kernel_rfl)) ?_
  intro W base args ds gs before hval0 hW hcnd _ hsh _
  have hval : ∀ (j : Nat) t v, Try.f4.params[j]? = some t → args[j]? = some v → Value.okWide Try.prog W .any base t v := hval0
  have hW' := hW
  obtain ⟨p, q, hA0, hV, rfl, hfz, hnd⟩ := hW
  have hA : DataW.TrodAll enc Try.prog W 0 (fun _ => true) true Try.f4.params.toList args.toList ds p := hA0
  rw [Try.params4] at hA hval
  obtain ⟨v0, vs0, d0, ds0, p0, q0, hargs, rfl, rfl, h0, r0⟩ := trodAll_cons hA
  obtain ⟨v1, vs1, d1, ds1, p1, q1, rfl, rfl, rfl, h1, r1⟩ := trodAll_cons r0
  obtain ⟨rfl, rfl, rfl⟩ := trodAll_nil r1
  obtain rfl : args = #[v0, v1] := by cases args; simp_all
  obtain ⟨rfl, rfl⟩ := trodVars_none hV
  obtain ⟨a0, len0, cap0, rfl⟩ := okWide_slice Try.underlying22 (hval 0 22 v0 rfl rfl)
  obtain ⟨a1, len1, cap1, rfl⟩ := okWide_slice Try.underlying22 (hval 1 22 v1 rfl rfl)
  have k0 := h0
  have lt0 : ∀ x ∈ p0, x.block < W.heap.size := by obtain ⟨m, hm⟩ := k0; exact DataW.trod_lt m _ _ _ hm
  have k1 := h1
  have lt1 : ∀ x ∈ p1, x.block < W.heap.size := by obtain ⟨m, hm⟩ := k1; exact DataW.trod_lt m _ _ _ hm
  obtain ⟨ss, rfl, hS⟩ := strs_of h0
  obtain ⟨ff, rfl, hF⟩ := strs_of h1
  obtain ⟨m, hm⟩ := Try.laysM143.s1_3 W hsh
  have hm' : W.cell? ⟨0, 0, none⟩ = some (.int .i64 m) := hm
  clear hA0 hval0
  refine (fill_walk a0 a1 cap0 cap1 ss ff m W hS hF hm' (lt_of_cell hm')).mono fun e W' ⟨he, bel⟩ => ?_
  subst he
  exact ⟨_, rfl, _, _, _, [], _, [], hW', trodAll_mk1 (shut_bool Try.underlying4 _), (trodAll_cons_mk (Below.trod laidOut (by kernel_rfl) (of_decide_eq_true (by kernel_rfl)) k0 bel lt0) (trodAll_cons_mk (Below.trod laidOut (by kernel_rfl) (of_decide_eq_true (by kernel_rfl)) k1 bel lt1) trodAll_mk0)), rfl, bel.frame _, fun h => by cases h⟩

theorem fill_over : Rows.fnWildcardMatchesEveryFillingRow.holds Try.pinned (OpenSpec.ofChange Rows.fnWildcardMatchesEveryFillingSpec) :=
  OpenClaim.holds_of_wide 4 Try.f4 rfl rfl rfl rfl rfl rfl rfl ⟨rfl, rfl, rfl, rfl, rfl⟩ rfl rfl rfl rfl rfl (by kernel_rfl) Try.func4 (by kernel_rfl)
    (of_decide_eq_true (by kernel_rfl)) (by unfold Func.isWrapper; first | (rw [if_pos (by decide +kernel)]; kernel_rfl) | (rw [if_neg (by decide +kernel)]; exact ⟨rfl, rfl⟩))
    (fun os started H enc _ => fill_lifted os started H enc)

/-- THE STATEMENT -/
theorem fill_proved : Rows.FnWildcardMatchesEveryFillingSaid := fill_over
end Go.Proofs.Qxb6603290a
