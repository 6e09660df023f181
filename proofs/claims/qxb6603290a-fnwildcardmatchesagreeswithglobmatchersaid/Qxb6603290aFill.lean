/-
  THE LAW's WALK: FnWildcardMatchesEveryFilling (4).
-/
import Derived.Test.Qxb6603290aCopy
import Derived.Test.Qxb6603290aMatch
import Derived.Lib.AppendStr
import Derived.Lib.BufferRead
import Derived.Laws.IdiomStrings
import Derived.OwnWalk
namespace Go.Proofs.Qxb6603290a
open Go.RowKit

theorem info5 : (Try.prog.info? 5).map (fun i => (i.zero, i.size, i.bytes)) = some (some (.int .u8 0), 1, 1) := by kernel_rfl

def TrueBelow (w : World) (e : Ending) (w' : World) : Prop := e = .returned (.bool true) ∧ Below w.heap.size w w'

theorem Strs.at {w : World} {b : Nat} {ss : List ByteArray} (h : Strs w (some ⟨b, 0, none⟩) ss) (i : Nat) (hi : i < ss.length) : b < w.heap.size ∧ w.cell? ⟨b, i, none⟩ = some (.string (ss.getD i ByteArray.empty)) := by
  obtain ⟨b', off, e, hlt, hc⟩ := h.2.2 (by omega)
  simp only [Option.some.injEq, Addr.mk.injEq] at e
  obtain ⟨rfl, rfl, _⟩ := e
  exact ⟨hlt, by have := hc i hi; rwa [Nat.zero_add] at this⟩

theorem size_le (ss : List ByteArray) (i : Nat) (h : sumLen ss ≤ 1048576) : (ss.getD i ByteArray.empty).size ≤ 1048576 := by
  by_cases hi : i < ss.length
  · have := sumLen_take ss i hi
    have := sumLen_take_le ss (i + 1)
    omega
  · rw [List.getD_eq_getElem?_getD, List.getElem?_eq_none (by omega)]
    show (0 : Nat) ≤ _
    omega

theorem fits_one (ss : List ByteArray) (h : 0 < ss.length) : Wc.Fits ((ss.take 1).map bl) (bl (ss.getD 0 ByteArray.empty)) := by
  cases ss with
  | nil => simp at h
  | cons a t => simp [Wc.Fits]

theorem fits_snoc (x q : List UInt8) : ∀ (ps : List (List UInt8)) (s : List UInt8), Wc.Fits ps s → Wc.Fits (ps ++ [q]) (s ++ x ++ q)
  | [], _, h => absurd h (by simp [Wc.Fits])
  | [p], s, h => by
    have : s = p := h
    subst this
    exact ⟨x, q, by simp, rfl⟩
  | p :: p' :: ps, s, h => by
    obtain ⟨y, b, rfl, hb⟩ := h
    exact ⟨y, b ++ x ++ q, by simp, fits_snoc x q (p' :: ps) b hb⟩

theorem own_base {w : World} {base : Nat} {e : TypeId} {size : Nat} {v : Value} {n : Nat} {xs : List Value} (h : w.ownsRow base e size v n xs) : ∀ k, v.ownBlock = some k → base ≤ k := by
  intro k hk
  rcases h.2 with ⟨rfl, _⟩ | ⟨g, cap, cur, rfl, hb, _⟩
  · simp [Value.ownBlock] at hk
  · simp [Value.ownBlock] at hk; omega

/-- one round: part k behind what stands in the k-th place -/
theorem round_fits (ss : List ByteArray) (k : Nat) (hk : k < ss.length) (l x : List UInt8) (h : Wc.Fits ((ss.take k).map bl) l) : Wc.Fits ((ss.take (k + 1)).map bl) (l ++ x ++ bl (ss.getD k ByteArray.empty)) := by
  have e : (ss.take (k + 1)).map bl = (ss.take k).map bl ++ [bl (ss.getD k ByteArray.empty)] := by
    rw [List.take_succ_eq_append_getElem hk, List.map_append, List.getD_eq_getElem?_getD, List.getElem?_eq_getElem hk]
    rfl
  rw [e]
  exact fits_snoc x _ _ _ h

theorem own_cat {w : World} {B : Nat} {v : Value} {l : List UInt8} {p : ByteArray} (h : w.ownsRow B 5 1 v (l.length + p.size) (Lib.byteCells l ++ Lib.strCells p)) : w.ownsRow B 5 1 v (l ++ bl p).length (Lib.byteCells (l ++ bl p)) := by
  have e1 : (l ++ bl p).length = l.length + p.size := by simp [bl]
  rw [e1, Lib.byteCells_append]
  exact h

/-- string(buf) -/
theorem conv_own {w : World} {B : Nat} {v : Value} {l : List UInt8} (h : w.ownsRow B 5 1 v l.length (Lib.byteCells l)) : (convert 32 9 v).run Try.prog w = .ok (.string ⟨l.toArray⟩) w := by
  rcases h.2 with ⟨rfl, h0⟩ | ⟨g, cap, cur, rfl, _⟩
  · have : l = [] := List.eq_nil_of_length_eq_zero h0
    subst this
    exact Lib.run_convert_nil_bytes w 32 9 5 0 Try.underlying32 Try.underlying5 Try.underlying9
  · refine run_convert_bytes_back w 32 9 5 ⟨g, 0, none⟩ cap l Try.underlying32 Try.underlying5 Try.underlying9 fun j hj => ?_
    exact h.cells (g := g) rfl j _ (by simp [Lib.byteCells, hj])

set_option maxHeartbeats 1000000 in
theorem fill_walk (ao ao2 : Option Addr) (cap cap2 : Nat) (ss ff : List ByteArray) (m : Int) (w : World) (hS : Strs w ao ss) (hF : Strs w ao2 ff) (hm : w.cell? ⟨0, 0, none⟩ = some (.int .i64 m)) (hw0 : 0 < w.heap.size) :
    Calls Try.prog 4 #[.slice ao ss.length cap, .slice ao2 ff.length cap2] w fun e w' => TrueBelow w e w' := by
  have HS : Hid (Strs w ao ss) := hS
  have HF : Hid (Strs w ao2 ff) := hF
  have HM : Hid (w.cell? ⟨0, 0, none⟩ = some (.int .i64 m)) := hm
  obtain ⟨i0, hi, hz0, hz1, hz2⟩ := info_parts info5
  have HI : Hid (Try.prog.info? 5 = some i0) := hi
  have HZ0 : Hid (i0.zero = some (.int .u8 0)) := hz0
  have HZ1 : Hid (i0.size = 1) := hz1
  have HZ2 : Hid (i0.bytes = 1) := hz2
  clear hS hF hm hi hz0 hz1 hz2
  go_enter Try.func4, Try.ntmps4
  go_wp2_with fail
  refine (bytes_any _ _ _ _ _ _ _ HS.out HF.out).mono ?_
  rintro e w' ⟨⟨ok0, rfl⟩, rfl⟩
  cases ok0
  · go_wp2
    go_ret
    exact ⟨rfl, Below.refl _ _⟩
  go_wp2_with fail
  refine (add_any 0 _ _ _ _ (by omega) (by omega) HS.out).mono ?_
  rintro e w' ⟨⟨t1, ok1, rfl, h1⟩, rfl⟩
  cases ok1
  · clear h1
    go_wp2
    go_ret
    exact ⟨rfl, Below.refl _ _⟩
  obtain ⟨hn, ht0, ht1, hsum⟩ := h1 rfl
  clear h1
  go_wp2_with fail
  refine (add_any t1 _ _ _ _ ht0 ht1 HF.out).mono ?_
  rintro e w' ⟨⟨t2, ok2, rfl, h2⟩, rfl⟩
  cases ok2
  · clear h2
    go_wp2
    go_ret
    exact ⟨rfl, Below.refl _ _⟩
  obtain ⟨hn2, hu0, hu1, hsum2⟩ := h2 rfl
  clear h2 ht0 ht1
  rcases Nat.eq_zero_or_pos ss.length with h0 | hpos
  · have h0B : ((ss.length : Int) == 0) = true := by rw [h0]; rfl
    clear h0
    go_wp2
    go_ret
    exact ⟨rfl, Below.refl _ _⟩
  have h0B : ((ss.length : Int) == 0) = false := by rw [beq_eq_false_iff_ne]; omega
  obtain ⟨N, hN⟩ := Int.eq_ofNat_of_zero_le hu0
  subst hN
  go_wp2_with fail
  refine (copy_any _ _ _ _ hn HS.out).mono ?_
  rintro e w1 ⟨ao', cap', rfl, hcap', hS1, hb1, hp1⟩
  obtain ⟨b, rfl, hbB⟩ := hp1 hpos
  have HS1 : Hid (Strs w1 (some ⟨b, 0, none⟩) ss) := hS1
  have HF1 : Hid (Strs w1 ao2 ff) := HF.out.later hb1
  have HB1 : Hid (Below w'.heap.size w' w1) := hb1
  clear hp1 hS1 hb1
  go_wp2_with fail
  refine (copy_any _ _ _ _ hn2 HF1.out).mono ?_
  rintro e w2 ⟨ao2', cap2', rfl, hcap2', hF2, hb2, hp2⟩
  have HS2 : Hid (Strs w2 (some ⟨b, 0, none⟩) ss) := HS1.out.later hb2
  have HF2 : Hid (Strs w2 ao2' ff) := hF2
  have HB2 : Hid (Below w'.heap.size w' w2) := HB1.out.trans (hb2.mono HB1.out.size)
  clear hF2 hb2 HS1 HF1 HB1
  have hl0 : b < w2.heap.size := (Strs.at HS2.out 0 hpos).1
  have HC0 : Hid (w2.cell? ⟨b, 0, none⟩ = some (.string (ss.getD 0 ByteArray.empty))) := (Strs.at HS2.out 0 hpos).2
  have hz0 : (ss.getD 0 ByteArray.empty).size ≤ 1048576 := size_le ss 0 hsum
  have HT : Hid (Wc.Fits ((ss.take 1).map bl) (bl (ss.getD 0 ByteArray.empty))) := fits_one ss hpos
  have HL : Hid (sumLen (ss.take 1) = (ss.getD 0 ByteArray.empty).size) := by show sumLen _ = _; have := sumLen_take ss 0 hpos; rw [this]; simp [sumLen]
  generalize ss.getD 0 ByteArray.empty = p0 at *
  go_wp2_with (first
    | (at_make; refine wpList_make_own _ rfl _ _ 32 rfl w2.heap.size 5 i0 (.int .u8 0) 1 Try.underlying32 HI.out HZ0.out HZ1.out _ _ _ N rfl rfl rfl (by rw [HZ2.out]; omega) (by unfold maxLen; omega) (Nat.le_refl _) ?_; intro w3 hown3 hgrow3; have hB3 : Below w2.heap.size w2 w3 := (Below.refl _ _).grown hgrow3 (Nat.le_refl _) (by simp); have hc0 := (hB3.cell (p := ⟨b, 0, none⟩) hl0).trans HC0.out)
    | (at_builtin; refine Lib.wpList_append_own_string _ rfl (.tmp 37) (.tmp 40) 32 9 rfl w2.heap.size 5 i0 Try.underlying32 Try.underlying9 HI.out HZ0.out HZ1.out HZ2.out _ 0 [] rfl hown3 p0 rfl (by unfold maxLen; omega) (by omega) hB3.size ?_; intro v4 w4 hown4 hgrow4 _))
  have hB4 : Below w2.heap.size w2 w4 := hB3.grown hgrow4 hB3.size (own_base hown3)
  have hown5 : w4.ownsRow w2.heap.size 5 1 v4 (bl p0).length (Lib.byteCells (bl p0)) := own_cat (l := []) (p := p0) hown4
  have hl0' : (bl p0).length = p0.size := by simp [bl]
  clear hown3 hgrow3 hB3 hc0 hown4 hgrow4
  go_loopw [7, 8] (fun v i wr => ∃ (k : Nat) (l : List UInt8), 1 ≤ k ∧ k ≤ ss.length ∧ i = .int .i64 k ∧ wr.ownsRow w2.heap.size 5 1 v l.length (Lib.byteCells l) ∧ Below w2.heap.size w2 wr ∧ Wc.Fits ((ss.take k).map bl) l ∧ l.length ≤ sumLen (ss.take k) + sumLen (ff.take (k - 1))) (fun _ i _ => ss.length - (intOf i).toNat)
  case atStart => exact ⟨1, bl p0, Nat.le_refl _, hpos, rfl, hown5, hB4, HT.out, by have := HL.out; omega⟩
  case round =>
    clear hown5 hB4 HT HL hl0' HC0
    obtain ⟨k, l, hk1, hk, rfl, hown, hB, hfit, hlen⟩ := hrel
    have hs1 := sumLen_take_le ss k
    have hs2 := sumLen_take_le ff (k - 1)
    by_cases hlt : k < ss.length
    · have hck := (hB.cell (p := ⟨b, k, none⟩) hl0).trans (Strs.at HS2.out k hlt).2
      have HCK : Hid (w2.cell? ⟨b, k, none⟩ = some (.string (ss.getD k ByteArray.empty))) := (Strs.at HS2.out k hlt).2
      have hzk := size_le ss k hsum
      have HFit : Hid (∀ x, Wc.Fits ((ss.take (k + 1)).map bl) (l ++ x ++ bl (ss.getD k ByteArray.empty))) := fun x => round_fits ss k hlt l x hfit
      have HLk : Hid (sumLen (ss.take (k + 1)) = sumLen (ss.take k) + (ss.getD k ByteArray.empty).size) := sumLen_take ss k hlt
      clear hfit
      generalize ss.getD k ByteArray.empty = pk at *
      by_cases hf : k - 1 < ff.length
      · have e1 : ((k : Int) - 1).toNat = k - 1 := by omega
        obtain ⟨b2, rfl, hlb2, hcf⟩ : ∃ b2, ao2' = some ⟨b2, 0, none⟩ ∧ b2 < w2.heap.size ∧ w2.cell? ⟨b2, k - 1, none⟩ = some (.string (ff.getD (k - 1) ByteArray.empty)) := by
          obtain ⟨b2, rfl, _⟩ := hp2 (by omega)
          exact ⟨b2, rfl, Strs.at HF2.out (k - 1) hf⟩
        have hcf' := (hB.cell (p := ⟨b2, k - 1, none⟩) hlb2).trans hcf
        have hzf := size_le ff (k - 1) hsum2
        have HLf : Hid (sumLen (ff.take k) = sumLen (ff.take (k - 1)) + (ff.getD (k - 1) ByteArray.empty).size) := by
          have := sumLen_take ff (k - 1) hf
          rwa [Nat.sub_add_cancel hk1] at this
        clear hcf hp2
        generalize ff.getD (k - 1) ByteArray.empty = fk at *
        go_wp2_with (first
          | (at_builtin; refine Lib.wpList_append_own_string _ rfl (.tmp 53) (.tmp 58) 32 9 rfl w2.heap.size 5 i0 Try.underlying32 Try.underlying9 HI.out HZ0.out HZ1.out HZ2.out _ _ _ rfl hown fk rfl (by unfold maxLen; omega) (by omega) hB.size ?_; intro v5 w5 hown5 hgrow5 _; have hB5 : Below w2.heap.size w2 w5 := hB.grown hgrow5 hB.size (own_base hown); have hck5 := (hB5.cell (p := ⟨b, k, none⟩) hl0).trans HCK.out)
          | (at_builtin; refine Lib.wpList_append_own_string _ rfl (.tmp 60) (.tmp 64) 32 9 rfl w2.heap.size 5 i0 Try.underlying32 Try.underlying9 HI.out HZ0.out HZ1.out HZ2.out _ _ _ rfl (own_cat hown5) pk rfl (by simp [bl]; unfold maxLen; omega) (by simp [bl]; omega) hB5.size ?_; intro v6 w6 hown6 hgrow6 _; have hB6 : Below w2.heap.size w2 w6 := hB5.grown hgrow6 hB5.size (own_base hown5)))
        go_roundw
        case rel => exact ⟨k + 1, l ++ bl fk ++ bl pk, by omega, by omega, by go_num, own_cat hown6, hB6, HFit.out _, by have h1 := HLk.out; have h2 := HLf.out; have h3 : (l ++ bl fk ++ bl pk).length = l.length + fk.size + pk.size := (by simp [bl]; omega); rw [Nat.add_sub_cancel]; omega⟩
        case measure => simp [intOf]; omega
      · clear hp2
        have hle : sumLen (ff.take (k - 1)) = sumLen (ff.take k) := by rw [List.take_of_length_le (by omega), List.take_of_length_le (by omega)]
        have HLe : Hid (sumLen (ff.take (k - 1)) = sumLen (ff.take k)) := hle
        clear hle
        go_wp2_with (at_builtin; refine Lib.wpList_append_own_string _ rfl (.tmp 60) (.tmp 64) 32 9 rfl w2.heap.size 5 i0 Try.underlying32 Try.underlying9 HI.out HZ0.out HZ1.out HZ2.out _ _ _ rfl hown pk rfl (by unfold maxLen; omega) (by omega) hB.size ?_; intro v6 w6 hown6 hgrow6 _; have hB6 : Below w2.heap.size w2 w6 := hB.grown hgrow6 hB.size (own_base hown))
        go_roundw
        case rel => exact ⟨k + 1, l ++ bl pk, by omega, by omega, by go_num, own_cat hown6, hB6, by have := HFit.out []; rwa [List.append_nil] at this, by have h1 := HLk.out; have h2 := HLe.out; have h3 : (l ++ bl pk).length = l.length + pk.size := (by simp [bl]); rw [Nat.add_sub_cancel]; omega⟩
        case measure => simp [intOf]; omega
    · have hkl : k = ss.length := by omega
      subst hkl
      rw [List.take_length] at hfit
      have hwild : Wc.wild (ss.map bl) (bl ⟨l.toArray⟩) = true := (Wc.wild_iff _ _ (by intro h; rw [List.map_eq_nil_iff] at h; rw [h] at hpos; simp at hpos)).2 (by simpa [bl] using hfit)
      have hconv := conv_own hown
      have hcon : Calls Try.prog 12 #[.slice (some ⟨b, 0, none⟩) ss.length cap', .string ⟨l.toArray⟩] wr fun e w' => Ans true wr e w' := by
        rw [← hwild]
        refine zz_match b 0 cap' ss ⟨l.toArray⟩ m wr hpos hn ?_ hcap' (fun i => Nat.le_trans (size_le ss i hsum) (by omega)) ?_ ?_
        · show l.toArray.size ≤ _
          rw [List.size_toArray]; omega
        · exact (hB.cell (p := ⟨0, 0, none⟩) (Nat.lt_of_lt_of_le hw0 HB2.out.size)).trans ((HB2.out.cell (p := ⟨0, 0, none⟩) hw0).trans HM.out)
        · intro i hi
          rw [Nat.zero_add]
          exact (hB.cell (p := ⟨b, i, none⟩) hl0).trans (Strs.at HS2.out i hi).2
      have HCON : Hid (Calls Try.prog 12 #[.slice (some ⟨b, 0, none⟩) ss.length cap', .string ⟨l.toArray⟩] wr fun e w' => Ans true wr e w') := hcon
      clear hcon hwild hfit hown hp2
      go_wp2_with fail
      refine (Hid.out HCON : Calls _ _ _ _ _).mono ?_
      rintro e w'' ⟨rfl, n, rfl⟩
      go_wp2
      go_ret
      exact ⟨rfl, below_drewN (HB2.out.trans (hB.mono HB2.out.size)) _⟩
end Go.Proofs.Qxb6603290a
