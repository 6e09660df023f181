/-
  WALKS: zzSet (13): the set of a string's bytes, by value.
-/
import Derived.Test.Qxb6603439aBld
import Derived.Lib.AsciiSet
import Derived.Laws.Rows
import Derived.Laws.Tables
import Derived.Laws.CopyOwn
import Derived.Deep.WholeRow
namespace Go.Proofs.Qxb6603439a
open Go.RowKit

theorem info24 : (Try.prog.info? 24).map (fun i => (i.zero, i.size)) = some (some (.agg (Array.replicate 256 (.bool false))), 256) := by kernel_rfl

theorem size24 : (Try.prog.info? 24).map (·.size) = some 256 := by kernel_rfl

/-- two blocks: the result's, and the one that is filled -/
structure SetW (w : World) (l : List UInt8) (wr : World) : Prop where
  res : wr.heap[w.heap.size]? = some (.cells (Lib.setCells []) 24 (0, 0))
  cur : wr.heap[w.heap.size + 1]? = some (.cells (Lib.setCells l) 24 (0, 0))
  below : Below w.heap.size w wr

theorem SetW.start (w : World) : SetW w [] ((w.alloc (.cells (Array.replicate 256 (.bool false)) 24)).alloc (.cells (Array.replicate 256 (.bool false)) 24)) := by
  rw [← Lib.setCells_nil]
  exact ⟨heap_alloc2_old _ _ _, heap_alloc2_new _ _ _, ((Below.refl _ _).alloc (Nat.le_refl _) _).alloc (by simp) _⟩

theorem SetW.step {w wr : World} {l : List UInt8} (h : SetW w l wr) (x : UInt8) : SetW w (l ++ [x]) (wr.setCell ⟨w.heap.size + 1, x.toNat, none⟩ (.bool true)) :=
  ⟨by rw [heap_setCell_other _ _ _ _ (by simp)]; exact h.res, by rw [heap_setCell_same _ _ _ _ _ _ h.cur, Lib.setCells_snoc], h.below.setCell (by simp) _⟩

set_option maxHeartbeats 1000000 in
theorem set_any (s : ByteArray) (w : World) (hs : s.size ≤ 4000000) :
    Calls Try.prog 13 #[.string s] w fun e w' => e = .returned (.agg (Lib.setCells s.data.toList)) ∧ Below w.heap.size w w' := by
  have hzv := (zero_of_info info24).1
  go_enter Try.func13, Try.ntmps13
  go_wp2
  clear hzv
  go_loopw [4] (fun i wr => ∃ k : Nat, k ≤ s.size ∧ i = .int .i64 k ∧ SetW w (s.data.toList.take k) wr) (fun i _ => s.size - (intOf i).toNat)
  case atStart => exact ⟨0, Nat.zero_le _, rfl, SetW.start w⟩
  case round =>
    obtain ⟨k, hk, rfl, hW⟩ := hrel
    by_cases hlt : k < s.size
    · have hnx : SetW w (s.data.toList.take (k + 1)) (wr.setCell ⟨w.heap.size + 1, s[k].toNat, none⟩ (.bool true)) := by
        have e : s.data.toList.take (k + 1) = s.data.toList.take k ++ [s[k]] := by
          rw [List.take_succ_eq_append_getElem (by simpa using hlt)]; rfl
        rw [e]
        exact hW.step s[k]
      have HNX : Hid (SetW w (s.data.toList.take (k + 1)) (wr.setCell ⟨w.heap.size + 1, s[k].toNat, none⟩ (.bool true))) := hnx
      have hcell : wr.cell? ⟨w.heap.size + 1, s[k].toNat, none⟩ = some (.bool ((s.data.toList.take k).contains s[k])) := by
        rw [cell_of_row _ _ _ _ _ _ hW.cur, Lib.setCells_at]
      have hfr := frozen_of_row wr (w.heap.size + 1) s[k].toNat _ _ hW.cur
      have hx : (s[k].toNat : Int) < 256 := by have := UInt8.toNat_lt s[k]; omega
      clear hW hnx
      generalize (s.data.toList.take k).contains s[k] = bb at *
      go_wp2
      go_roundw
      case rel => exact ⟨k + 1, by omega, by go_num, HNX.out⟩
      case measure => simp [intOf]; omega
    · have e : s.data.toList.take k = s.data.toList := List.take_of_length_le (by simp; omega)
      rw [e] at hW
      have hsz := Lib.setCells_size s.data.toList
      have hb2 : Below w.heap.size w (wr.setRow w.heap.size (Lib.setCells s.data.toList)) := below_setRow hW.below (Nat.le_refl _) _
      have hh : (wr.setRow w.heap.size (Lib.setCells s.data.toList)).heap[w.heap.size]? = some (.cells (Lib.setCells s.data.toList) 24 (0, 0)) := setRow_heap _ _ _ _ _ _ hW.res
      have H1 : Hid (Below w.heap.size w (wr.setRow w.heap.size (Lib.setCells s.data.toList))) := hb2
      have H2 : Hid ((wr.setRow w.heap.size (Lib.setCells s.data.toList)).heap[w.heap.size]? = some (.cells (Lib.setCells s.data.toList) 24 (0, 0))) := hh
      have HR : Hid (wr.heap[w.heap.size]? = some (.cells (Lib.setCells []) 24 (0, 0))) := hW.res
      have HU : Hid (wr.heap[w.heap.size + 1]? = some (.cells (Lib.setCells s.data.toList) 24 (0, 0))) := hW.cur
      have HSZ : Hid ((Lib.setCells s.data.toList).size = 256) := hsz
      have HO : Hid ((Lib.setCells s.data.toList).all (·.oneCell') = true) := Lib.setCells_one _
      have HSN : Hid ((Lib.setCells []).size = 256) := Lib.setCells_size []
      clear hb2 hh hW hsz e
      generalize hC : Lib.setCells s.data.toList = C at *
      have HCe : Hid (Lib.setCells s.data.toList = C) := hC
      clear hC
      go_wp2_with (first
        | (refine wpList_load_row rfl 24 (.tmp 3) rfl (w.heap.size + 1) rfl 24 _ _ _ HU.out Try.underlying24 rfl (by rw [HSZ.out]; exact size24) ?_)
        | (refine wpList_store_row rfl 24 (.tmp 2) (.tmp 15) rfl w.heap.size C rfl rfl 24 _ HR.out (by rw [HSZ.out]; exact size24) (by rw [HSN.out, HSZ.out]) HO.out ?_))
      exact bodyPost_ret (v := .agg C) (results_cell_row rfl _ _ w.heap.size 24 C (0, 0) _ rfl H2.out Try.underlying24 rfl (by rw [HSZ.out]; exact size24)) rfl ⟨by rw [HCe.out], H1.out⟩
end Go.Proofs.Qxb6603439a
