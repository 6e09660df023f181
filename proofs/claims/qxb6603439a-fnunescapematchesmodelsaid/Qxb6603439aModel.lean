/-
  WALKS: zzUnescapeModel (11), and the law FnUnescapeMatchesModel (3).
-/
import Derived.Test.Qxb6603439aEsc
import Derived.Test.Qxb6603439aRef
namespace Go.Proofs.Qxb6603439a
open Go.RowKit
namespace Md

def SomeBool (e : Ending) : Prop := ∃ b : Bool, e = .returned (.bool b)

def TrueBelow (w : World) (e : Ending) (w' : World) : Prop := e = .returned (.bool true) ∧ Below w.heap.size w w'

theorem own_str {w : World} {B : Nat} {v : Value} {l : List UInt8} {p : ByteArray} (h : w.ownsRow B 5 1 v (l.length + p.size) (Lib.byteCells l ++ Lib.strCells p)) : w.ownsRow B 5 1 v (l ++ bl p).length (Lib.byteCells (l ++ bl p)) := own_app h rfl (by simp [bl])

/-- how far the model is: out, and what is left from k on -/
def At (s e : ByteArray) (k : Nat) (out : List UInt8) : Prop := k ≤ s.size ∧ out.length ≤ k ∧ Ue.unesc (has e) (bl s) = out ++ Ue.unesc (has e) ((bl s).drop k)

theorem zzib92 (s : ByteArray) (w : World) (hs : s.size ≤ 4000000) : Calls Try.prog 18 #[.string s, .int .u8 92] w fun e w' => e = .returned (.int .i64 (Lib.indexByte (bl s) 92)) ∧ w' = w := zzib s 92 w hs

theorem ext_bl (s : ByteArray) (a b : Nat) : bl (s.extract a b) = ((bl s).drop a).take (b - a) := by
  unfold bl
  rw [Lib.extract_data]

theorem ext_end (s : ByteArray) (a : Nat) : bl (s.extract a s.size) = (bl s).drop a := by
  rw [ext_bl, List.take_of_length_le]
  rw [List.length_drop, len_bl]
  exact Nat.le_refl _

/-- no backslash any more -/
theorem At.rest {s e : ByteArray} {k : Nat} {out : List UInt8} (h : At s e k out) (hn : ∀ j : Nat, ((bl s).drop k)[j]? ≠ some 92) : Ue.unesc (has e) (bl s) = out ++ (bl s).drop k := by
  rw [h.2.2, Ue.unesc_none]
  intro c hc e
  subst e
  obtain ⟨j, hj⟩ := List.getElem?_of_mem hc
  exact hn j hj

/-- as far as the next backslash -/
theorem At.run {s e : ByteArray} {k n : Nat} {out : List UInt8} (h : At s e k out) (hn : ∀ j, j < n → ((bl s).drop k)[j]? ≠ some 92) (hat : ((bl s).drop k)[n]? = some 92) : At s e (k + n) (out ++ ((bl s).drop k).take n) ∧ k + n < s.size ∧ (bl s).drop (k + n) = 92 :: (bl s).drop (k + n + 1) := by
  have hlt : n < ((bl s).drop k).length := (List.getElem?_eq_some_iff.1 hat).1
  have hl : k + n < s.size := by rw [List.length_drop, len_bl] at hlt; omega
  have e1 : (bl s).drop k = ((bl s).drop k).take n ++ (bl s).drop (k + n) := by
    rw [← List.drop_drop, List.take_append_drop]
  have e2 : (bl s).drop (k + n) = 92 :: (bl s).drop (k + n + 1) := by
    have hl' : k + n < (bl s).length := by rw [len_bl]; exact hl
    rw [List.drop_eq_getElem_cons hl']
    rw [List.getElem?_drop, List.getElem?_eq_getElem hl'] at hat
    injection hat with hat
    rw [hat]
  refine ⟨⟨by omega, ?_, ?_⟩, hl, e2⟩
  · have := h.2.1
    rw [List.length_append, List.length_take]
    omega
  · rw [h.2.2]
    conv => lhs; rw [e1]
    rw [Ue.unesc_run _ _ (fun c hc e => ?_), List.append_assoc]
    subst e
    obtain ⟨j, hj⟩ := List.getElem?_of_mem hc
    have hjn : j < n := by
      have := (List.getElem?_eq_some_iff.1 hj).1
      rw [List.length_take] at this
      omega
    rw [List.getElem?_take, if_pos hjn] at hj
    exact hn j hjn hj

/-- the pair -/
theorem At.pair {s e : ByteArray} {k : Nat} {out : List UInt8} {d : UInt8} (h : At s e k out) (h0 : (bl s).drop k = 92 :: (bl s).drop (k + 1)) (h1 : (bl s)[k + 1]? = some d) (hd : has e d = true) : At s e (k + 2) (out ++ [Ue.ctrl d]) := by
  obtain ⟨hlt, he⟩ := List.getElem?_eq_some_iff.1 h1
  have e2 : (bl s).drop (k + 1) = d :: (bl s).drop (k + 2) := by rw [List.drop_eq_getElem_cons hlt, he]
  rw [len_bl] at hlt
  refine ⟨by omega, by have := h.2.1; simp only [List.length_append, List.length_singleton]; omega, ?_⟩
  rw [h.2.2, h0, e2, Ue.unesc_pair _ hd]
  simp

/-- the lone backslash -/
theorem At.lone {s e : ByteArray} {k : Nat} {out : List UInt8} (h : At s e k out) (hk : k < s.size) (h0 : (bl s).drop k = 92 :: (bl s).drop (k + 1)) (hd : ∀ d, (bl s)[k + 1]? = some d → has e d = false) : At s e (k + 1) (out ++ [92]) := by
  refine ⟨hk, by have := h.2.1; simp only [List.length_append, List.length_singleton]; omega, ?_⟩
  rw [h.2.2, h0]
  by_cases hlt : k + 1 < (bl s).length
  · have e2 : (bl s).drop (k + 1) = (bl s)[k + 1] :: (bl s).drop (k + 2) := List.drop_eq_getElem_cons hlt
    rw [e2, Ue.unesc_keep _ (hd _ (List.getElem?_eq_getElem hlt))]
    simp
  · rw [List.drop_of_length_le (by omega)]
    simp [Ue.unesc]

def ModOk (s e : ByteArray) (w : World) (en : Ending) (w' : World) : Prop := en = .returned (.string ⟨(Ue.unesc (has e) (bl s)).toArray⟩) ∧ Below w.heap.size w w'

set_option maxHeartbeats 4000000 in
set_option maxRecDepth 100000 in
theorem model_any (s e : ByteArray) (w : World) (hs : s.size ≤ 1048576) (he : e.size ≤ 4000000) : Calls Try.prog 11 #[.string s, .string e] w fun en w' => ModOk s e w en w' := by
  obtain ⟨i0, hi, hz0, hz1, hz2⟩ := info_parts info5
  have HI : Hid (Try.prog.info? 5 = some i0) := hi
  have HZ0 : Hid (i0.zero = some (.int .u8 0)) := hz0
  have HZ1 : Hid (i0.size = 1) := hz1
  have HZ2 : Hid (i0.bytes = 1) := hz2
  clear hi hz0 hz1 hz2
  go_enter Try.func11, Try.ntmps11
  go_wp2_with fail
  refine (set_any e _ he).mono ?_
  rintro en w1 ⟨rfl, hb1⟩
  have hzv := (zero_of_info info24).1
  have HB1 : Hid (Below w.heap.size w w1) := hb1
  have HSZ : Hid ((Lib.setCells e.data.toList).size = 256) := Lib.setCells_size _
  have HO : Hid ((Lib.setCells e.data.toList).all (·.oneCell') = true) := Lib.setCells_one _
  have HAT : Hid (∀ x : UInt8, (Lib.setCells e.data.toList)[x.toNat]? = some (.bool (has e x))) := fun x => Lib.setCells_at _ x
  generalize Lib.setCells e.data.toList = C at *
  clear hb1
  have HCL : Hid (∀ x : UInt8, (w1.alloc (.cells C 24)).cell? ⟨w1.heap.size, x.toNat, none⟩ = some (.bool (has e x))) := fun x => by
    rw [cell_of_row _ _ _ _ _ _ (heap_alloc_new _ _)]
    exact HAT.out x
  have HB2 : Hid (Below w.heap.size w (w1.alloc (.cells C 24))) := HB1.out.alloc HB1.out.size _
  have HL2 : Hid (w1.heap.size < (w1.alloc (.cells C 24)).heap.size) := by show _ < _; simp
  go_wp2_with (first
    | (refine wpList_store_row rfl 24 (.tmp 5) (.tmp 13) rfl w1.heap.size C rfl rfl 24 _ (heap_alloc_new _ _) (by rw [HSZ.out]; exact size24) (by rw [Array.size_replicate, HSZ.out]) HO.out ?_; rw [World.setRow_alloc_new]; clear hzv; generalize w1.alloc (.cells C 24) = w2 at *)
    | (at_make; refine wpList_make_own _ rfl _ _ 31 rfl w2.heap.size 5 i0 (.int .u8 0) 1 Try.underlying31 HI.out HZ0.out HZ1.out _ _ _ s.size rfl rfl rfl (by rw [HZ2.out]; omega) (by unfold maxLen; omega) (Nat.le_refl _) ?_; intro w3 hown3 hgrow3))
  have hB3 : Below w2.heap.size w2 w3 := (Below.refl _ _).grown hgrow3 (Nat.le_refl _) (by simp)
  clear hgrow3
  go_loopw [6, 7] (fun v i wr => ∃ (k : Nat) (out : List UInt8), At s e k out ∧ i = .int .i64 k ∧ wr.ownsRow w2.heap.size 5 1 v out.length (Lib.byteCells out) ∧ Below w2.heap.size w2 wr) (fun _ i _ => s.size - (intOf i).toNat)
  case atStart => exact ⟨0, [], ⟨Nat.zero_le _, Nat.le_refl _, rfl⟩, rfl, hown3, hB3⟩
  case round =>
    clear hown3 hB3
    obtain ⟨k, out, hA, rfl, hown, hB⟩ := hrel
    have HA : Hid (At s e k out) := hA
    obtain ⟨hk, hlo, -⟩ := hA
    by_cases hlt : k < s.size
    · obtain ⟨t, ht⟩ : ∃ t, s.extract k s.size = t := ⟨_, rfl⟩
      have htb : bl t = (bl s).drop k := by rw [← ht]; exact ext_end s k
      have hts : t.size = s.size - k := by rw [← len_bl, htb, List.length_drop, len_bl]
      have hts2 : t.size ≤ 4000000 := by omega
      rcases ib_cases (bl t) 92 with ⟨hib, hnone⟩ | ⟨n, hib, hat, hfirst⟩
      · rw [htb] at hnone
        have HR : Hid (Ue.unesc (has e) (bl s) = out ++ bl t) := by show _ = _; rw [htb]; exact HA.out.rest hnone
        clear hnone htb HA
        go_wp2_with (first
          | (go_at_call 18; refine (zzib92 t _ hts2).mono ?_; rintro en w5 ⟨rfl, hw5⟩; rw [hw5, hib]; clear hw5)
          | (at_builtin; refine Lib.wpList_append_own_string _ rfl (.tmp 27) (.tmp 30) 31 9 rfl w2.heap.size 5 i0 Try.underlying31 Try.underlying9 HI.out HZ0.out HZ1.out HZ2.out _ _ _ rfl hown t rfl (by unfold maxLen; omega) (by omega) hB.size ?_; intro v4 w4 hown4 hgrow4 _; have hB4 : Below w2.heap.size w2 w4 := hB.grown hgrow4 hB.size (own_base hown); have hconv := conv_own (own_str hown4)))
        go_ret
        refine ⟨?_, HB2.out.trans (hB4.mono HB2.out.size)⟩
        rw [HR.out]
        rfl
      · rw [htb] at hat hfirst
        obtain ⟨hA1, hl, h0⟩ := HA.out.run hfirst hat
        have HA1 : Hid (At s e (k + n) (out ++ ((bl s).drop k).take n)) := hA1
        have H0 : Hid ((bl s).drop (k + n) = 92 :: (bl s).drop (k + n + 1)) := h0
        obtain ⟨p, hp⟩ : ∃ p, s.extract k (k + n) = p := ⟨_, rfl⟩
        have hpb : bl p = ((bl s).drop k).take n := by rw [← hp, ext_bl, show k + n - k = n from by omega]
        have hps : p.size ≤ n := by rw [← len_bl, hpb]; exact List.length_take_le _ _
        rw [← hpb] at HA1
        clear hA1 h0 hat hfirst hpb htb hts HA
        by_cases hend : k + n + 1 < s.size
        · have HD : Hid ((bl s)[k + n + 1]? = some s[k + n + 1]) := at_bl s _ hend
          obtain ⟨d, hd⟩ : ∃ d, s[k + n + 1] = d := ⟨_, rfl⟩
          rw [hd] at HD
          have HCD := (show Hid (w2.cell? ⟨w1.heap.size, d.toNat, none⟩ = some (.bool (has e d))) from HCL.out d)
          have hx : (d.toNat : Int) < 256 := by have := UInt8.toNat_lt d; omega
          cases hh : has e d
          · have HN : Hid (At s e (k + n + 1) (out ++ bl p ++ [92])) := HA1.out.lone hl H0.out (fun x hx => by
              rw [HD.out] at hx
              injection hx with hx
              rw [← hx]; exact hh)
            rw [hh] at HCD
            clear HA1 H0 HD hh HCL
            go_wp2_with (first | (go_at_call 18; refine (zzib92 t _ hts2).mono ?_; rintro en w5 ⟨rfl, hw5⟩; rw [hw5, hib]; clear hw5) | (at_builtin; refine Lib.wpList_append_own_string _ rfl (.tmp 35) (.tmp 39) 31 9 rfl w2.heap.size 5 i0 Try.underlying31 Try.underlying9 HI.out HZ0.out HZ1.out HZ2.out _ _ _ rfl hown p (by exact congrArg Value.string hp) (by unfold maxLen; omega) (by omega) hB.size ?_; intro v4 w4 hown4 hgrow4 _; have hB4 : Below w2.heap.size w2 w4 := hB.grown hgrow4 hB.size (own_base hown); have hown5 := own_str hown4; have hl5 : (out ++ bl p).length = out.length + p.size := (by simp [bl]); have hcl4 := (hB4.cell (p := ⟨w1.heap.size, d.toNat, none⟩) HL2.out).trans HCD.out) | (at_builtin; refine wpList_append_own _ rfl (.tmp 72) (.tmp 73) 31 rfl w2.heap.size 5 i0 (.int .u8 0) 1 1 Try.underlying31 HI.out HZ0.out HZ1.out HZ2.out rfl (by decide) _ _ _ rfl (hown5.alloc _) ⟨w4.heap.size, 0, none⟩ 1 1 [.int .u8 92] rfl rfl (cell_one_new _ _ _) (by intro u hu; simp at hu; subst hu; rfl) (by unfold maxLen; omega) (by omega) (by have := hB4.size; simp; omega) ?_; intro v6 w6 hown6 hgrow6 hnil6))
            have hB6 : Below w2.heap.size w2 w6 := (hB4.alloc hB4.size _).grown hgrow6 (by have := hB4.size; simp; omega) (own_base hown5)
            have hown7 := own_app hown6 (x := [92]) rfl rfl
            clear hown6 hgrow6 hnil6 hown5 hB4 hown4 hgrow4
            go_wp2
            go_roundw
            case rel => exact ⟨k + n + 1, _, HN.out, by go_num, hown7, hB6⟩
            case measure => simp [intOf]; omega
            
          · have HNp := (show Hid (At s e (k + n + 2) (out ++ bl p ++ [Ue.ctrl d])) from HA1.out.pair H0.out HD.out hh)
            rw [hh] at HCD
            rw [Ue.ctrl_control] at HNp
            clear HA1 H0 HD hh HCL
            by_cases hc0 : Ue.control d = 0
            · have HN : Hid (At s e (k + n + 2) (out ++ bl p ++ [d])) := by
                rw [if_neg (by simpa using hc0)] at HNp
                exact HNp
              have hz : ((Ue.control d).toNat : Int) = 0 := by rw [hc0]; rfl
              clear HNp hc0
              go_wp2_with (first | (go_at_call 18; refine (zzib92 t _ hts2).mono ?_; rintro en w5 ⟨rfl, hw5⟩; rw [hw5, hib]; clear hw5) | (at_builtin; refine Lib.wpList_append_own_string _ rfl (.tmp 35) (.tmp 39) 31 9 rfl w2.heap.size 5 i0 Try.underlying31 Try.underlying9 HI.out HZ0.out HZ1.out HZ2.out _ _ _ rfl hown p (by exact congrArg Value.string hp) (by unfold maxLen; omega) (by omega) hB.size ?_; intro v4 w4 hown4 hgrow4 _; have hB4 : Below w2.heap.size w2 w4 := hB.grown hgrow4 hB.size (own_base hown); have hown5 := own_str hown4; have hl5 : (out ++ bl p).length = out.length + p.size := (by simp [bl]); have hcl4 := (hB4.cell (p := ⟨w1.heap.size, d.toNat, none⟩) HL2.out).trans HCD.out) | (go_at_call 22; refine (control_of d _).mono ?_; rintro en w5 ⟨rfl, hw5⟩; rw [hw5]; clear hw5) | (at_builtin; refine wpList_append_own _ rfl (.tmp 66) (.tmp 68) 31 rfl w2.heap.size 5 i0 (.int .u8 0) 1 1 Try.underlying31 HI.out HZ0.out HZ1.out HZ2.out rfl (by decide) _ _ _ rfl (hown5.alloc _) ⟨w4.heap.size, 0, none⟩ 1 1 [.int .u8 (d.toNat : Int)] rfl rfl (cell_one_new _ _ _) (by intro u hu; simp at hu; subst hu; rfl) (by unfold maxLen; omega) (by omega) (by have := hB4.size; simp; omega) ?_; intro v6 w6 hown6 hgrow6 hnil6))
              have hB6 : Below w2.heap.size w2 w6 := (hB4.alloc hB4.size _).grown hgrow6 (by have := hB4.size; simp; omega) (own_base hown5)
              have hown7 := own_app hown6 (x := [d]) rfl rfl
              clear hown6 hgrow6 hnil6 hown5 hB4 hown4 hgrow4
              go_wp2
              go_roundw
              case rel => exact ⟨k + n + 2, _, HN.out, by go_num, hown7, hB6⟩
              case measure => simp [intOf]; omega
              
            · have HN : Hid (At s e (k + n + 2) (out ++ bl p ++ [Ue.control d])) := by
                rw [if_pos hc0] at HNp
                exact HNp
              have hnz : (((Ue.control d).toNat : Int) != 0) = true := by
                rw [bne_iff_ne]
                intro h
                exact hc0 (UInt8.toNat_inj.1 (by simp; omega))
              clear HNp hc0
              go_wp2_with (first | (go_at_call 18; refine (zzib92 t _ hts2).mono ?_; rintro en w5 ⟨rfl, hw5⟩; rw [hw5, hib]; clear hw5) | (at_builtin; refine Lib.wpList_append_own_string _ rfl (.tmp 35) (.tmp 39) 31 9 rfl w2.heap.size 5 i0 Try.underlying31 Try.underlying9 HI.out HZ0.out HZ1.out HZ2.out _ _ _ rfl hown p (by exact congrArg Value.string hp) (by unfold maxLen; omega) (by omega) hB.size ?_; intro v4 w4 hown4 hgrow4 _; have hB4 : Below w2.heap.size w2 w4 := hB.grown hgrow4 hB.size (own_base hown); have hown5 := own_str hown4; have hl5 : (out ++ bl p).length = out.length + p.size := (by simp [bl]); have hcl4 := (hB4.cell (p := ⟨w1.heap.size, d.toNat, none⟩) HL2.out).trans HCD.out) | (go_at_call 22; refine (control_of d _).mono ?_; rintro en w5 ⟨rfl, hw5⟩; rw [hw5]; clear hw5) | (at_builtin; refine wpList_append_own _ rfl (.tmp 62) (.tmp 64) 31 rfl w2.heap.size 5 i0 (.int .u8 0) 1 1 Try.underlying31 HI.out HZ0.out HZ1.out HZ2.out rfl (by decide) _ _ _ rfl (hown5.alloc _) ⟨w4.heap.size, 0, none⟩ 1 1 [.int .u8 ((Ue.control d).toNat : Int)] rfl rfl (cell_one_new _ _ _) (by intro u hu; simp at hu; subst hu; rfl) (by unfold maxLen; omega) (by omega) (by have := hB4.size; simp; omega) ?_; intro v6 w6 hown6 hgrow6 hnil6))
              have hB6 : Below w2.heap.size w2 w6 := (hB4.alloc hB4.size _).grown hgrow6 (by have := hB4.size; simp; omega) (own_base hown5)
              have hown7 := own_app hown6 (x := [Ue.control d]) rfl rfl
              clear hown6 hgrow6 hnil6 hown5 hB4 hown4 hgrow4
              go_wp2
              go_roundw
              case rel => exact ⟨k + n + 2, _, HN.out, by go_num, hown7, hB6⟩
              case measure => simp [intOf]; omega
              
        · have HN : Hid (At s e (k + n + 1) (out ++ bl p ++ [92])) := HA1.out.lone hl H0.out (fun x hx => by
            have := (List.getElem?_eq_some_iff.1 hx).1
            rw [len_bl] at this
            omega)
          have hde : decide ((k : Int) + (n : Int) + 1 < (s.size : Int)) = false := decide_eq_false (by omega)
          clear HA1 H0 HCL
          go_wp2_with (first | (go_at_call 18; refine (zzib92 t _ hts2).mono ?_; rintro en w5 ⟨rfl, hw5⟩; rw [hw5, hib]; clear hw5) | (at_builtin; refine Lib.wpList_append_own_string _ rfl (.tmp 35) (.tmp 39) 31 9 rfl w2.heap.size 5 i0 Try.underlying31 Try.underlying9 HI.out HZ0.out HZ1.out HZ2.out _ _ _ rfl hown p (by exact congrArg Value.string hp) (by unfold maxLen; omega) (by omega) hB.size ?_; intro v4 w4 hown4 hgrow4 _; have hB4 : Below w2.heap.size w2 w4 := hB.grown hgrow4 hB.size (own_base hown); have hown5 := own_str hown4; have hl5 : (out ++ bl p).length = out.length + p.size := (by simp [bl])) | (at_builtin; refine wpList_append_own _ rfl (.tmp 72) (.tmp 73) 31 rfl w2.heap.size 5 i0 (.int .u8 0) 1 1 Try.underlying31 HI.out HZ0.out HZ1.out HZ2.out rfl (by decide) _ _ _ rfl (hown5.alloc _) ⟨w4.heap.size, 0, none⟩ 1 1 [.int .u8 92] rfl rfl (cell_one_new _ _ _) (by intro u hu; simp at hu; subst hu; rfl) (by unfold maxLen; omega) (by omega) (by have := hB4.size; simp; omega) ?_; intro v6 w6 hown6 hgrow6 hnil6))
          have hB6 : Below w2.heap.size w2 w6 := (hB4.alloc hB4.size _).grown hgrow6 (by have := hB4.size; simp; omega) (own_base hown5)
          have hown7 := own_app hown6 (x := [92]) rfl rfl
          clear hown6 hgrow6 hnil6 hown5 hB4 hown4 hgrow4
          go_wp2
          go_roundw
          case rel => exact ⟨k + n + 1, _, HN.out, by go_num, hown7, hB6⟩
          case measure => simp [intOf]; omega
          
    · have HE : Hid (Ue.unesc (has e) (bl s) = out) := by
        show _ = _
        rw [HA.out.2.2, List.drop_of_length_le (by rw [len_bl]; omega)]
        simp [Ue.unesc]
      have hconv := conv_own hown
      have HBF : Hid (Below w.heap.size w wr) := HB2.out.trans (hB.mono HB2.out.size)
      clear hown hB HA
      go_wp2
      go_ret
      refine ⟨?_, HBF.out⟩
      rw [HE.out]
      rfl
end Md
end Go.Proofs.Qxb6603439a
