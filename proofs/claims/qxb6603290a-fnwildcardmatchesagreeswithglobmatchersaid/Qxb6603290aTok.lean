/-
  WALKS: zzBytes of the glob law (8), tokenCountMB1 (10), globTokensMB1 (14).
-/
import Derived.Test.Qxb6603290aGm
import Derived.Test.Qxb6603290aFill
namespace Go.Proofs.Qxb6603290a
open Go.RowKit

set_option maxHeartbeats 800000 in
theorem bytes8_any (ao : Option Addr) (cap : Nat) (ss : List ByteArray) (s : ByteArray) (w : World) (hS : Strs w ao ss) (hs : s.size ≤ maxLen) :
    Calls Try.prog 8 #[.slice ao ss.length cap, .string s] w fun e w' => SomeBool e ∧ w' = w := by
  obtain ⟨hn, hsz, hc⟩ := hS
  unfold maxLen at hn hs
  have HC := (show Hid _ from hc)
  clear hc
  by_cases hbig : 1048576 < (ss.length : Int)
  · go_enter Try.func8, Try.ntmps8
    go_wp2
    go_ret
    exact ⟨⟨_, rfl⟩, rfl⟩
  go_enter Try.func8, Try.ntmps8
  go_wp2
  go_loop [5, 6] (fun a i => ∃ (k : Nat) (x : Int), k ≤ ss.length ∧ i = .int .i64 k ∧ a = .int .i64 x ∧ 0 ≤ x ∧ x ≤ 1048576) (fun _ i => ss.length - (intOf i).toNat)
  case atStart => exact ⟨0, _, Nat.zero_le _, rfl, rfl, by omega, by omega⟩
  case round =>
    obtain ⟨k, x, hk, rfl, rfl, hx0, hx1⟩ := hrel
    by_cases hlt : k < ss.length
    · obtain ⟨b, off, rfl, _, hc⟩ := HC.out (by omega)
      have hcell := hc k hlt
      have hz := hsz k
      clear hc hsz HC
      generalize hg : ss.getD k ByteArray.empty = sk at *
      clear hg
      unfold maxLen at hz
      go_wp2
      · go_ret
        exact ⟨⟨_, rfl⟩, rfl⟩
      · go_ret
        exact ⟨⟨_, rfl⟩, rfl⟩
      · go_round
        case rel => exact ⟨k + 1, _, by omega, by go_num, rfl, by omega, by omega⟩
        case measure => simp [intOf]; omega
    · clear hsz HC
      go_wp2
      all_goals
        go_ret
        exact ⟨⟨_, rfl⟩, rfl⟩

/-- the length of the token stream -/
def tokN (ss : List ByteArray) : Nat := (ss.length - 1) + sumLen ss

set_option maxHeartbeats 400000 in
theorem count_any (ao : Option Addr) (cap : Nat) (ss : List ByteArray) (w : World) (hn : ss.length ≤ 65536) (hsum : sumLen ss ≤ 1048576) (hS : Strs w ao ss) :
    Calls Try.prog 10 #[.slice ao ss.length cap] w fun e w' => e = .returned (.int .i64 (tokN ss)) ∧ w' = w := by
  obtain ⟨-, hsz, hc⟩ := hS
  have HC := (show Hid _ from hc)
  clear hc hsz
  rcases Nat.eq_zero_or_pos ss.length with h0 | hpos
  · have e : ss = [] := List.eq_nil_of_length_eq_zero h0
    subst e
    clear h0 HC
    show Calls Try.prog 10 #[.slice ao 0 cap] w fun e w' => e = .returned (.int .i64 0) ∧ w' = w
    go_enter Try.func10, Try.ntmps10
    go_wp2
    refine wp_loop_rounds 1 ?_
    rw [rounds_succ]
    go_wp2
    go_ret
    exact ⟨rfl, rfl⟩
  · have hd : decide ((0 : Int) < (ss.length : Int)) = true := decide_eq_true (by omega)
    go_enter Try.func10, Try.ntmps10
    go_wp2
    go_loop [3, 4] (fun a i => ∃ (k : Nat), k ≤ ss.length ∧ i = .int .i64 k ∧ a = .int .i64 (((ss.length : Int) - 1) + (sumLen (ss.take k) : Int))) (fun _ i => ss.length - (intOf i).toNat)
    case atStart => exact ⟨0, Nat.zero_le _, rfl, by simp [sumLen]⟩
    case round =>
      obtain ⟨k, hk, rfl, rfl⟩ := hrel
      have hle := sumLen_take_le ss k
      by_cases hlt : k < ss.length
      · obtain ⟨b, off, rfl, _, hc⟩ := HC.out (by omega)
        have hcell := hc k hlt
        have HS : Hid (sumLen (ss.take (k + 1)) = sumLen (ss.take k) + (ss.getD k ByteArray.empty).size) := sumLen_take ss k hlt
        have hz := size_le ss k hsum
        clear hc HC
        generalize ss.getD k ByteArray.empty = sk at *
        generalize hg : sumLen (ss.take k) = acc at *
        clear hg
        go_wp2
        go_round
        case rel => exact ⟨k + 1, by omega, by go_num, by rw [HS.out]; go_num⟩
        case measure => simp [intOf]; omega
      · have HT : Hid (((ss.length : Int) - 1) + (sumLen (ss.take k) : Int) = (tokN ss : Int)) := by
          show _ = _
          rw [List.take_of_length_le (by omega)]
          unfold tokN
          omega
        generalize sumLen (ss.take k) = acc at *
        clear HC
        go_wp2
        go_ret
        refine ⟨?_, rfl⟩
        rw [← HT.out]
        rfl

theorem info3 : (Try.prog.info? 3).map (fun i => (i.zero, i.size, i.bytes)) = some (some (.int .i64 0), 1, 8) := by kernel_rfl

theorem toks_len : ∀ l : List ByteArray, (Wc.toks (l.map bl)).length = l.length - 1 + sumLen l
  | [] => rfl
  | [p] => by simp [Wc.toks, sumLen, bl]
  | p :: q :: ps => by
    have ih := toks_len (q :: ps)
    show (Wc.toks (bl p :: bl q :: ps.map bl)).length = _
    have e : Wc.toks (bl p :: bl q :: ps.map bl) = (bl p).map Wc.tok ++ (-1) :: Wc.toks (bl q :: ps.map bl) := rfl
    have ih' : (Wc.toks (bl q :: ps.map bl)).length = (q :: ps).length - 1 + sumLen (q :: ps) := ih
    rw [e, List.length_append, List.length_cons, ih', List.length_map]
    have h1 : (bl p).length = p.size := by simp [bl]
    have h2 : sumLen (p :: q :: ps) = p.size + sumLen (q :: ps) := by simp [sumLen]
    rw [h1, h2]
    simp only [List.length_cons]
    omega

/-- the numbers as cells -/
def ic (T : List Int) : List Value := T.map (Value.int .i64)

theorem ic_snoc (T : List Int) (x : Int) : ic T ++ [.int .i64 x] = ic (T ++ [x]) := by simp [ic]

/-- the stream as far as part j, the wildcard ahead of part j with it -/
def T1 (ss : List ByteArray) (j : Nat) : List Int := if j = 0 then [] else Wc.toks ((ss.take j).map bl) ++ [-1]

theorem T1_next (ss : List ByteArray) (j : Nat) (h : j < ss.length) : T1 ss j ++ (bl (ss.getD j ByteArray.empty)).map Wc.tok = Wc.toks ((ss.take (j + 1)).map bl) := by
  have e : (ss.take (j + 1)).map bl = (ss.take j).map bl ++ [bl (ss.getD j ByteArray.empty)] := by
    rw [List.take_succ_eq_append_getElem h, List.map_append, List.getD_eq_getElem?_getD, List.getElem?_eq_getElem h]
    rfl
  rw [e]
  unfold T1
  by_cases hj : j = 0
  · subst hj
    simp [Wc.toks]
  · rw [if_neg hj, Wc.toks_snoc]
    intro hn
    rw [List.map_eq_nil_iff] at hn
    have := congrArg List.length hn
    rw [List.length_take] at this
    simp only [List.length_nil] at this
    omega

/-- what globTokensMB1 answers -/
def TokOk (ss : List ByteArray) (w : World) (e : Ending) (w' : World) : Prop :=
  ∃ g cap, e = .returned (.slice (some ⟨g, 0, none⟩) (Wc.toks (ss.map bl)).length cap) ∧ Below w.heap.size w w' ∧ ∀ i, i < (Wc.toks (ss.map bl)).length → w'.cell? ⟨g, i, none⟩ = some (.int .i64 ((Wc.toks (ss.map bl)).getD i 0))

theorem T1_len (ss : List ByteArray) (j : Nat) (hj : j ≤ ss.length) (hn : ss.length ≤ 65536) (hsum : sumLen ss ≤ 1048576) : (T1 ss j).length ≤ 1200000 := by
  unfold T1
  split
  · simp
  · have h1 := toks_len (ss.take j)
    have h2 := sumLen_take_le ss j
    rw [List.length_take] at h1
    rw [List.length_append, List.length_singleton]
    omega

theorem inner_snoc (T : List Int) (p : ByteArray) (k : Nat) (h : k < p.size) : T ++ ((bl p).take (k + 1)).map Wc.tok = (T ++ ((bl p).take k).map Wc.tok) ++ [wrap64 (p[k].toNat : Int)] := by
  have hk : k < (bl p).length := by simpa [bl] using h
  rw [List.take_succ_eq_append_getElem hk, List.map_append, List.append_assoc, wrap_byte]
  rfl

theorem own_snoc {w : World} {B : Nat} {v : Value} {T T' : List Int} {x : Int} (h : w.ownsRow B 3 1 v (T.length + 1) (ic T ++ [.int .i64 x])) (e : T' = T ++ [x]) : w.ownsRow B 3 1 v T'.length (ic T') := by
  subst e
  rw [ic_snoc] at h
  rw [List.length_append]
  exact h

theorem tok_end {ss : List ByteArray} {w w' : World} {v : Value} (ho : w'.ownsRow w.heap.size 3 1 v (Wc.toks (ss.map bl)).length (ic (Wc.toks (ss.map bl)))) (hv : v ≠ .slice none 0 0) (hb : Below w.heap.size w w') : TokOk ss w (.returned v) w' := by
  rcases id ho.2 with ⟨h, _⟩ | ⟨g, cap, cur, rfl, _⟩
  · exact absurd h hv
  · refine ⟨g, cap, rfl, hb, fun i hi => ?_⟩
    have := ho.cells (g := g) rfl i (.int .i64 ((Wc.toks (ss.map bl)).getD i 0)) (by simp [ic, hi, List.getD_eq_getElem?_getD])
    rw [WideShapes.add_plain, Nat.zero_add] at this
    exact this

set_option maxHeartbeats 2000000 in
theorem tok_any (b cap : Nat) (ss : List ByteArray) (w : World) (hn : ss.length ≤ 65536) (hsum : sumLen ss ≤ 1048576) (hS : Strs w (some ⟨b, 0, none⟩) ss) (hpos : 0 < ss.length) :
    Calls Try.prog 14 #[.slice (some ⟨b, 0, none⟩) ss.length cap] w fun e w' => TokOk ss w e w' := by
  have HS : Hid (Strs w (some ⟨b, 0, none⟩) ss) := hS
  have hl0 : b < w.heap.size := (Strs.at hS 0 hpos).1
  obtain ⟨i0, hi, hz0, hz1, hz2⟩ := info_parts info3
  have HI : Hid (Try.prog.info? 3 = some i0) := hi
  have HZ0 : Hid (i0.zero = some (.int .i64 0)) := hz0
  have HZ1 : Hid (i0.size = 1) := hz1
  have HZ2 : Hid (i0.bytes = 8) := hz2
  have htn : tokN ss ≤ 2000000 := by unfold tokN; omega
  clear hS hi hz0 hz1 hz2
  generalize hN : tokN ss = N at *
  have HN : Hid (tokN ss = N) := hN
  clear hN
  go_enter Try.func14, Try.ntmps14
  go_wp2_with fail
  refine (count_any _ _ _ _ hn hsum HS.out).mono ?_
  rw [HN.out]
  rintro e w' ⟨rfl, rfl⟩
  go_wp2_with (at_make; refine wpList_make_own _ rfl _ _ 29 rfl w'.heap.size 3 i0 (.int .i64 0) 1 Try.underlying29 HI.out HZ0.out HZ1.out _ _ _ N rfl rfl rfl (by rw [HZ2.out]; omega) (by unfold maxLen; omega) (Nat.le_refl _) ?_; intro w3 hown3 hgrow3)
  have hB3 : Below w'.heap.size w' w3 := (Below.refl _ _).grown hgrow3 (Nat.le_refl _) (by simp)
  clear hgrow3
  go_loopw [3, 4] (fun t i wr => ∃ (j : Nat), j ≤ ss.length ∧ i = .int .i64 j ∧ wr.ownsRow w'.heap.size 3 1 t (Wc.toks ((ss.take j).map bl)).length (ic (Wc.toks ((ss.take j).map bl))) ∧ Below w'.heap.size w' wr ∧ t ≠ .slice none 0 0) (fun _ i _ => ss.length - (intOf i).toNat)
  case atStart => exact ⟨0, Nat.zero_le _, rfl, hown3, hB3, by simp⟩
  case round =>
    clear hown3 hB3
    obtain ⟨j, hj, rfl, hown, hB, hnn⟩ := hrel
    have hlen := toks_len (ss.take j)
    have hle := sumLen_take_le ss j
    rw [List.length_take] at hlen
    by_cases hlt : j < ss.length
    · have HCJ : Hid (w'.cell? ⟨b, j, none⟩ = some (.string (ss.getD j ByteArray.empty))) := (Strs.at HS.out j hlt).2
      have hzj := size_le ss j hsum
      have HNX : Hid (T1 ss j ++ (bl (ss.getD j ByteArray.empty)).map Wc.tok = Wc.toks ((ss.take (j + 1)).map bl)) := T1_next ss j hlt
      have hT1 := T1_len ss j hj hn hsum
      have hown0 : j = 0 → wr.ownsRow w'.heap.size 3 1 u3 (T1 ss j).length (ic (T1 ss j)) := by
        intro h
        subst h
        exact hown
      have HT1 : Hid (0 < j → T1 ss j = Wc.toks ((ss.take j).map bl) ++ [-1]) := fun h => by unfold T1; rw [if_neg (by omega)]
      generalize ss.getD j ByteArray.empty = pj at *
      generalize T1 ss j = U at *
      rcases Nat.eq_zero_or_pos j with h0 | h0
      · have hown5' := hown0 h0
        clear hown0 hown HT1
        have hB5 := hB
        have hnn5 := hnn
        have hdN : decide (0 < j) = false := decide_eq_false (by omega)
        have hj0 : (j : Int) ≤ 0 := by omega
        clear hB hnn h0
        have hown5 : wr.ownsRow w'.heap.size 3 1 u3 (U ++ ((bl pj).take 0).map Wc.tok).length (ic (U ++ ((bl pj).take 0).map Wc.tok)) := by simpa using hown5'
        clear hown5'
        go_wp2
        go_loopw [3, 5] (fun t kk wi => ∃ (k : Nat), k ≤ pj.size ∧ kk = .int .i64 k ∧ wi.ownsRow w'.heap.size 3 1 t (U ++ ((bl pj).take k).map Wc.tok).length (ic (U ++ ((bl pj).take k).map Wc.tok)) ∧ Below w'.heap.size w' wi ∧ t ≠ .slice none 0 0) (fun _ kk _ => pj.size - (intOf kk).toNat)
        case atStart => exact ⟨0, Nat.zero_le _, rfl, hown5, hB5, hnn5⟩
        case round =>
          clear hown5 hB5 hnn5
          obtain ⟨k, hk, rfl, howni, hBi, hnni⟩ := hrel
          have hck := (hBi.cell (p := ⟨b, j, none⟩) hl0).trans HCJ.out
          have hlen' : (U ++ ((bl pj).take k).map Wc.tok).length ≤ 3000000 := by
            rw [List.length_append, List.length_map, List.length_take]; omega
          by_cases hkl : k < pj.size
          · have HSN : Hid (U ++ ((bl pj).take (k + 1)).map Wc.tok = (U ++ ((bl pj).take k).map Wc.tok) ++ [wrap64 (pj[k].toNat : Int)]) := inner_snoc U pj k hkl
            generalize U ++ ((bl pj).take k).map Wc.tok = V at *
            go_wp2_with (at_builtin; refine wpList_append_own _ rfl (.tmp 29) (.tmp 37) 29 rfl w'.heap.size 3 i0 (.int .i64 0) 1 8 Try.underlying29 HI.out HZ0.out HZ1.out HZ2.out rfl (by decide) _ _ _ rfl (howni.alloc _) ⟨wr.heap.size, 0, none⟩ 1 1 [.int .i64 (wrap64 (pj[k].toNat : Int))] rfl rfl (cell_one_new _ _ _) (by intro u hu; simp at hu; subst hu; rfl) (by unfold maxLen; omega) (by omega) (by have := hBi.size; simp; omega) ?_; intro v6 w6 hown6 hgrow6 hnil6)
            have hB6 : Below w'.heap.size w' w6 := (hBi.alloc hBi.size _).grown hgrow6 (by have := hBi.size; simp; omega) (own_base howni)
            have hown7 := own_snoc hown6 HSN.out
            have hnn6 : v6 ≠ .slice none 0 0 := fun h => hnni (hnil6.1 h).1
            clear hown6 hgrow6 hnil6 howni hnni hck
            go_wp2
            go_roundw
            case rel => exact ⟨k + 1, by omega, by go_num, hown7, hB6, hnn6⟩
            case measure => simp [intOf]; omega
          · have hown7 : wr.ownsRow w'.heap.size 3 1 u3 (Wc.toks ((ss.take (j + 1)).map bl)).length (ic (Wc.toks ((ss.take (j + 1)).map bl))) := by
              rw [← HNX.out]
              have e : (bl pj).take k = bl pj := List.take_of_length_le (by simp [bl]; omega)
              rw [e] at howni
              exact howni
            clear howni
            go_wp2
            go_roundw
            case rel => exact ⟨j + 1, by omega, by go_num, hown7, hBi, hnni⟩
            case measure => simp [intOf]; omega
      · clear hown0
        have hd : decide ((0 : Int) < (j : Int)) = true := decide_eq_true (by omega)
        go_wp2_with (at_builtin; refine wpList_append_own _ rfl (.tmp 17) (.tmp 18) 29 rfl w'.heap.size 3 i0 (.int .i64 0) 1 8 Try.underlying29 HI.out HZ0.out HZ1.out HZ2.out rfl (by decide) _ _ _ rfl (hown.alloc _) ⟨wr.heap.size, 0, none⟩ 1 1 [.int .i64 (-1)] rfl rfl (cell_one_new _ _ _) (by intro u hu; simp at hu; subst hu; rfl) (by unfold maxLen; omega) (by omega) (by have := hB.size; simp; omega) ?_; intro v4 w4 hown4 hgrow4 hnil4)
        have hB5 : Below w'.heap.size w' w4 := (hB.alloc hB.size _).grown hgrow4 (by have := hB.size; simp; omega) (own_base hown)
        have hown5 : w4.ownsRow w'.heap.size 3 1 v4 (U ++ ((bl pj).take 0).map Wc.tok).length (ic (U ++ ((bl pj).take 0).map Wc.tok)) := by
          have := own_snoc hown4 (HT1.out h0)
          simpa using this
        have hnn5 : v4 ≠ .slice none 0 0 := fun h => hnn (hnil4.1 h).1
        clear hown4 hgrow4 hnil4 hown hB hnn HT1
        go_loopw [3, 5] (fun t kk wi => ∃ (k : Nat), k ≤ pj.size ∧ kk = .int .i64 k ∧ wi.ownsRow w'.heap.size 3 1 t (U ++ ((bl pj).take k).map Wc.tok).length (ic (U ++ ((bl pj).take k).map Wc.tok)) ∧ Below w'.heap.size w' wi ∧ t ≠ .slice none 0 0) (fun _ kk _ => pj.size - (intOf kk).toNat)
        case atStart => exact ⟨0, Nat.zero_le _, rfl, hown5, hB5, hnn5⟩
        case round =>
          clear hown5 hB5 hnn5
          obtain ⟨k, hk, rfl, howni, hBi, hnni⟩ := hrel
          have hck := (hBi.cell (p := ⟨b, j, none⟩) hl0).trans HCJ.out
          have hlen' : (U ++ ((bl pj).take k).map Wc.tok).length ≤ 3000000 := by
            rw [List.length_append, List.length_map, List.length_take]; omega
          by_cases hkl : k < pj.size
          · have HSN : Hid (U ++ ((bl pj).take (k + 1)).map Wc.tok = (U ++ ((bl pj).take k).map Wc.tok) ++ [wrap64 (pj[k].toNat : Int)]) := inner_snoc U pj k hkl
            generalize U ++ ((bl pj).take k).map Wc.tok = V at *
            go_wp2_with (at_builtin; refine wpList_append_own _ rfl (.tmp 29) (.tmp 37) 29 rfl w'.heap.size 3 i0 (.int .i64 0) 1 8 Try.underlying29 HI.out HZ0.out HZ1.out HZ2.out rfl (by decide) _ _ _ rfl (howni.alloc _) ⟨wr.heap.size, 0, none⟩ 1 1 [.int .i64 (wrap64 (pj[k].toNat : Int))] rfl rfl (cell_one_new _ _ _) (by intro u hu; simp at hu; subst hu; rfl) (by unfold maxLen; omega) (by omega) (by have := hBi.size; simp; omega) ?_; intro v6 w6 hown6 hgrow6 hnil6)
            have hB6 : Below w'.heap.size w' w6 := (hBi.alloc hBi.size _).grown hgrow6 (by have := hBi.size; simp; omega) (own_base howni)
            have hown7 := own_snoc hown6 HSN.out
            have hnn6 : v6 ≠ .slice none 0 0 := fun h => hnni (hnil6.1 h).1
            clear hown6 hgrow6 hnil6 howni hnni hck
            go_wp2
            go_roundw
            case rel => exact ⟨k + 1, by omega, by go_num, hown7, hB6, hnn6⟩
            case measure => simp [intOf]; omega
          · have hown7 : wr.ownsRow w'.heap.size 3 1 u3 (Wc.toks ((ss.take (j + 1)).map bl)).length (ic (Wc.toks ((ss.take (j + 1)).map bl))) := by
              rw [← HNX.out]
              have e : (bl pj).take k = bl pj := List.take_of_length_le (by simp [bl]; omega)
              rw [e] at howni
              exact howni
            clear howni
            go_wp2
            go_roundw
            case rel => exact ⟨j + 1, by omega, by go_num, hown7, hBi, hnni⟩
            case measure => simp [intOf]; omega
    · have hjl : j = ss.length := by omega
      subst hjl
      rw [List.take_length] at hown
      have HE : Hid (TokOk ss w' (.returned u3) wr) := tok_end hown hnn hB
      clear hown hnn hlen hle
      go_wp2
      go_ret
      exact HE.out
end Go.Proofs.Qxb6603290a
