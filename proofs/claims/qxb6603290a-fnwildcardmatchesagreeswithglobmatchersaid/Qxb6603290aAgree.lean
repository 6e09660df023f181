/-
  THE LAW's WALK: FnWildcardMatchesAgreesWithGlobMatcher (3).
-/
import Derived.Test.Qxb6603290aTok
namespace Go.Proofs.Qxb6603290a
open Go.RowKit

theorem getD_range (T : List Int) (h : ∀ t ∈ T, -1 ≤ t ∧ t ≤ 255) (i : Nat) : -1 ≤ T.getD i 0 ∧ T.getD i 0 ≤ 255 := by
  by_cases hi : i < T.length
  · rw [List.getD_eq_getElem?_getD, List.getElem?_eq_getElem hi]
    exact h _ (List.getElem_mem hi)
  · rw [List.getD_eq_getElem?_getD, List.getElem?_eq_none (by omega)]
    exact ⟨by decide, by decide⟩

set_option maxHeartbeats 1000000 in
theorem agree_walk (ao : Option Addr) (cap : Nat) (ss : List ByteArray) (s : ByteArray) (m : Int) (w : World) (hS : Strs w ao ss) (hs : s.size ≤ maxLen) (hm : w.cell? ⟨0, 0, none⟩ = some (.int .i64 m)) (hw0 : 0 < w.heap.size) :
    Calls Try.prog 3 #[.slice ao ss.length cap, .string s] w fun e w' => TrueBelow w e w' := by
  have HS : Hid (Strs w ao ss) := hS
  have HSz : Hid (s.size ≤ maxLen) := hs
  have HM : Hid (w.cell? ⟨0, 0, none⟩ = some (.int .i64 m)) := hm
  unfold maxLen at hs
  clear hS hm
  go_enter Try.func3, Try.ntmps3
  go_wp2_with fail
  refine (bytes8_any _ _ _ _ _ HS.out HSz.out).mono ?_
  rintro e w' ⟨⟨ok0, rfl⟩, rfl⟩
  cases ok0
  · go_wp2
    go_ret
    exact ⟨rfl, Below.refl _ _⟩
  by_cases hbig : 1048576 < (s.size : Int)
  · go_wp2
    go_ret
    exact ⟨rfl, Below.refl _ _⟩
  go_wp2_with fail
  refine (add_any _ _ _ _ _ (by omega) (by omega) HS.out).mono ?_
  rintro e w' ⟨⟨t1, ok1, rfl, h1⟩, rfl⟩
  cases ok1
  · clear h1
    go_wp2
    go_ret
    exact ⟨rfl, Below.refl _ _⟩
  obtain ⟨hn, -, -, hsum⟩ := h1 rfl
  clear h1
  by_cases hmid : 16384 < (s.size : Int)
  · have hd : decide (16384 < (s.size : Int)) = true := decide_eq_true hmid
    go_wp2
    go_ret
    exact ⟨rfl, Below.refl _ _⟩
  have hd : decide (16384 < (s.size : Int)) = false := decide_eq_false hmid
  have htn : tokN ss ≤ 2000000 := by unfold tokN; omega
  generalize hN : tokN ss = N at *
  have HN : Hid (tokN ss = N) := hN
  clear hN
  by_cases htk : 16384 < (N : Int)
  · have hd2 : decide (16384 < (N : Int)) = true := decide_eq_true htk
    go_wp2_with fail
    refine (count_any _ _ _ _ hn hsum HS.out).mono ?_
    rw [HN.out]
    rintro e w' ⟨rfl, rfl⟩
    go_wp2
    go_ret
    exact ⟨rfl, Below.refl _ _⟩
  have hd2 : decide (16384 < (N : Int)) = false := decide_eq_false htk
  go_wp2_with fail
  refine (count_any _ _ _ _ hn hsum HS.out).mono ?_
  rw [HN.out]
  rintro e w' ⟨rfl, rfl⟩
  rcases Nat.eq_zero_or_pos ss.length with h0 | hpos
  · have h0B : ((ss.length : Int) == 0) = true := by rw [h0]; rfl
    clear h0
    go_wp2
    go_ret
    exact ⟨rfl, Below.refl _ _⟩
  have h0B : ((ss.length : Int) == 0) = false := by rw [beq_eq_false_iff_ne]; omega
  go_wp2_with fail
  refine (copy_any _ _ _ _ hn HS.out).mono ?_
  rintro e w1 ⟨ao', cap', rfl, hcap', hS1, hb1, hp1⟩
  obtain ⟨b, rfl, hbB⟩ := hp1 hpos
  have HS1 : Hid (Strs w1 (some ⟨b, 0, none⟩) ss) := hS1
  have HB1 : Hid (Below w'.heap.size w' w1) := hb1
  have hm1 : w1.cell? ⟨0, 0, none⟩ = some (.int .i64 m) := (hb1.cell (p := ⟨0, 0, none⟩) hw0).trans HM.out
  have hcells : ∀ i, i < ss.length → w1.cell? ⟨b, 0 + i, none⟩ = some (.string (ss.getD i ByteArray.empty)) := fun i hi => by rw [Nat.zero_add]; exact (Strs.at hS1 i hi).2
  have hz := zz_match b 0 cap' ss s m w1 hpos hn (by omega) hcap' (fun i => Nat.le_trans (size_le ss i hsum) (by omega)) hm1 hcells
  have hne : ss.map bl ≠ [] := by intro h; rw [List.map_eq_nil_iff] at h; rw [h] at hpos; simp at hpos
  have HW : Hid (Wc.wild (ss.map bl) (bl s) = true ↔ Wc.Fits (ss.map bl) (bl s)) := Wc.wild_iff _ _ hne
  have HG : Hid (Wc.G (Wc.toks (ss.map bl)) (bl s) ↔ Wc.Fits (ss.map bl) (bl s)) := Wc.G_toks _ _ hne
  generalize Wc.wild (ss.map bl) (bl s) = r1 at *
  have HZ : Hid (Calls Try.prog 12 #[.slice (some ⟨b, 0, none⟩) ss.length cap', .string s] w1 fun e w' => Ans r1 w1 e w') := hz
  have htl := toks_len ss
  have htl2 : (Wc.toks (ss.map bl)).length ≤ 4000000 := by omega
  have HR : Hid (∀ i, -1 ≤ (Wc.toks (ss.map bl)).getD i 0 ∧ (Wc.toks (ss.map bl)).getD i 0 ≤ 255) := getD_range _ (Wc.toks_range _)
  clear hp1 hS1 hb1 hm1 hcells hz hne htl
  go_wp2_with fail
  refine (Hid.out HZ : Calls _ _ _ _ _).mono ?_
  rintro e w2 ⟨rfl, nq, rfl⟩
  go_wp2_with fail
  have hS2 : Strs (w1.drewN nq) (some ⟨b, 0, none⟩) ss := HS1.out.later (below_drewN (Below.refl _ _) _)
  refine (tok_any b cap' ss _ hn hsum hS2 hpos).mono ?_
  rintro e w3 ⟨g, cap3, rfl, hb3, hc3⟩
  have HB3 : Hid (Below w'.heap.size w' w3) := HB1.out.trans ((below_drewN (Below.refl _ _) nq).trans (hb3.mono HB1.out.size))
  have HC3 : Hid (∀ i, i < (Wc.toks (ss.map bl)).length → w3.cell? ⟨g, i, none⟩ = some (.int .i64 ((Wc.toks (ss.map bl)).getD i 0))) := hc3
  clear hS2 hb3 hc3 HB1 HS1 HZ
  generalize Wc.toks (ss.map bl) = T at *
  go_wp2_with fail
  refine (gm_any g cap3 T s _ htl2 (by omega) HR.out HC3.out).mono ?_
  rintro e w4 ⟨r2, rfl, hr2, n4, rfl⟩
  have er : r2 = r1 := by
    rw [Bool.eq_iff_iff, hr2, HG.out, HW.out]
  subst er
  clear hr2
  go_wp2
  go_ret
  refine ⟨?_, below_drewN HB3.out _⟩
  cases r2 <;> rfl
end Go.Proofs.Qxb6603290a
