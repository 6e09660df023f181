/-
  WALKS: (wildcardPattern).matches (18), ZZWildcardMatches (12).
-/
import Derived.Test.Qxb6603290aAdd
import Derived.Test.Qxb6603290aPlain
import Derived.Test.Qxb6603290aShelf
import Derived.RegionTactic
import Derived.ChangeAlike
import Derived.BigQuiet
import Derived.Deep.QuietTactic
import Derived.WalkSpells
import Derived.Outline
namespace Go.Proofs.Qxb6603290a
open Go.RowKit

def bl (s : ByteArray) : List UInt8 := s.data.toList


/-- it answers r; the world has at most drawn -/
def Ans (r : Bool) (w : World) (e : Ending) (w' : World) : Prop := e = .returned (.bool r) ∧ ∃ n, w' = w.drewN n

set_option maxHeartbeats 400000 in
theorem match_one (b off cap : Nat) (s0 s : ByteArray) (w : World)
    (hc : w.cell? ⟨b, off, none⟩ = some (.string s0)) :
    Calls Try.prog 18 #[.slice (some ⟨b, off, none⟩) 1 cap, .string s] w fun e w' => Ans (bl s == bl s0) w e w' := by
  go_enter Try.func18, Try.ntmps18
  go_wp2
  go_ret
  refine ⟨?_, 0, rfl⟩
  rw [show (bl s == bl s0) = (s.toList == s0.toList) from by rw [Lib.toList_data, Lib.toList_data]; rfl]
  rfl

theorem bl_extract (s : ByteArray) (a b : Nat) : bl (s.extract a b) = ((bl s).take b).drop a := by
  unfold bl
  rw [Lib.extract_data, List.drop_take]

set_option maxHeartbeats 800000 in
theorem match_more (b off cap q : Nat) (s s0 sl : ByteArray) (ms : List ByteArray) (m : Int) (r : Bool) (w : World) (hq : q ≤ 65536) (hs : s.size ≤ 4000000) (hs0 : s0.size ≤ 4000000) (hsl : sl.size ≤ 4000000) (hcap : q + 2 ≤ cap)
    (hms : ms.length = q) (hsz : ∀ i, (ms.getD i ByteArray.empty).size ≤ 4000000)
    (hm : w.cell? ⟨0, 0, none⟩ = some (.int .i64 m))
    (hc0 : w.cell? ⟨b, off, none⟩ = some (.string s0)) (hcl : w.cell? ⟨b, off + (q + 1), none⟩ = some (.string sl))
    (hc : ∀ i, i < q → w.cell? ⟨b, off + 1 + i, none⟩ = some (.string (ms.getD i ByteArray.empty)))
    (hr : r = if s.size < s0.size + sl.size then false else if Lib.hasPrefix (bl s) (bl s0) = false then false else if Lib.hasSuffix (bl s) (bl sl) = false then false else Wc.mids (ms.map bl) (bl (s.extract s0.size (s.size - sl.size)))) :
    Calls Try.prog 18 #[.slice (some ⟨b, off, none⟩) (q + 2) cap, .string s] w fun e w' => Ans r w e w' := by
  have e1 : (((q + 2 : Nat) : Int) - 1).toNat = q + 1 := by omega
  have e2 : ((q : Int) + 2 - 1).toNat = q + 1 := by omega
  have hne : (((q : Int) + 2 == 1) = false) := by rw [beq_eq_false_iff_ne]; omega
  have HM : Hid (∀ n, (w.drewN n).cell? ⟨0, 0, none⟩ = some (.int .i64 m)) := fun n => by simpa using hm
  have HC : Hid (∀ n i, i < q → (w.drewN n).cell? ⟨b, off + 1 + i, none⟩ = some (.string (ms.getD i ByteArray.empty))) := fun n i hi => by simpa using hc i hi
  have HR : Hid (r = if s.size < s0.size + sl.size then false else if Lib.hasPrefix s.data.toList s0.data.toList = false then false else if Lib.hasSuffix s.data.toList sl.data.toList = false then false else Wc.mids (ms.map bl) (bl (s.extract s0.size (s.size - sl.size)))) := hr
  have HZ : Hid (∀ i, (ms.getD i ByteArray.empty).size ≤ 4000000) := hsz
  clear hm hc hr hsz
  by_cases hlen : s.size < s0.size + sl.size
  · have hr : Hid (r = false) := by have := HR.out; rw [if_pos hlen] at this; exact this
    clear HR HM HC HZ
    go_enter Try.func18, Try.ntmps18
    go_wp2
    go_quiet (fail)
    go_wp2_with fail
    go_ret
    exact ⟨by rw [hr.out]; rfl, _, rfl⟩
  have HR1 := HR.out
  rw [if_neg hlen] at HR1
  clear HR
  have hlenB : decide ((s.size : Int) < (s0.size : Int) + (sl.size : Int)) = false := by simp; omega
  cases hpre : Lib.hasPrefix s.data.toList s0.data.toList
  · have hr : Hid (r = false) := by rw [if_pos hpre] at HR1; exact HR1
    clear HR1 HM HC HZ
    go_enter Try.func18, Try.ntmps18
    go_wp2
    go_quiet (fail)
    go_wp2_with (go_at_call 20; refine (Try.strings_HasPrefix _ _ _).mono ?_; rintro e w' ⟨rfl, rfl⟩)
    go_ret
    exact ⟨by rw [hr.out]; rfl, _, rfl⟩
  rw [if_neg (by rw [hpre]; simp)] at HR1
  cases hsuf : Lib.hasSuffix s.data.toList sl.data.toList
  · have hr : Hid (r = false) := by rw [if_pos hsuf] at HR1; exact HR1
    clear HR1 HM HC HZ
    go_enter Try.func18, Try.ntmps18
    go_wp2
    go_quiet (fail)
    go_wp2_with (first | (go_at_call 20; refine (Try.strings_HasPrefix _ _ _).mono ?_; rintro e w' ⟨rfl, rfl⟩) | (go_at_call 21; refine (Try.strings_HasSuffix _ _ _ (by omega)).mono ?_; rintro e w' ⟨rfl, rfl⟩))
    go_ret
    exact ⟨by rw [hr.out]; rfl, _, rfl⟩
  rw [if_neg (by rw [hsuf]; simp)] at HR1
  have HR : Hid _ := HR1
  clear HR1
  go_enter Try.func18, Try.ntmps18
  go_wp2
  go_quiet (fail)
  go_wp2_with (first | (go_at_call 20; refine (Try.strings_HasPrefix _ _ _).mono ?_; rintro e w' ⟨rfl, rfl⟩) | (go_at_call 21; refine (Try.strings_HasSuffix _ _ _ (by omega)).mono ?_; rintro e w' ⟨rfl, rfl⟩))
  clear hpre hsuf hlenB e1 e2 hne hc0 hcl
  go_loop [1, 62] (fun a i => ∃ (k : Nat) (sk : ByteArray), k ≤ q ∧ i = .int .i64 k ∧ a = .string sk ∧ sk.size ≤ 4000000 ∧ Hid (r = Wc.mids ((ms.drop k).map bl) (bl sk))) (fun _ i => q - (intOf i).toNat)
  case atStart => exact ⟨0, _, Nat.zero_le _, rfl, rfl, by simp; omega, HR⟩
  case round =>
    obtain ⟨k, sk, hk, rfl, rfl, hsk, HK⟩ := hrel
    clear HR
    by_cases hlt : k < q
    · have hcell := HC.out nq k hlt
      have hz := HZ.out k
      have HK2 : Hid (r = Wc.mids (bl (ms.getD k ByteArray.empty) :: (ms.drop (k + 1)).map bl) (bl sk)) := by
        have := HK.out
        rw [List.drop_eq_getElem_cons (by omega)] at this
        rw [List.getD_eq_getElem?_getD, List.getElem?_eq_getElem (by omega)]
        exact this
      clear HK HC HZ
      generalize ms.getD k ByteArray.empty = pk at *
      rcases Lib.index_spec sk.data.toList pk.data.toList with ⟨hi, _⟩ | ⟨j, hi, _, ho, _⟩
      · have hr : Hid (r = false) := by
          have := HK2.out
          unfold Wc.mids bl at this
          rw [hi] at this
          exact this
        clear HK2
        go_wp2_with (go_at_call 22; refine (Try.strings_Index _ _ m _ (by omega) (HM.out _)).mono ?_; rintro e w' ⟨rfl, rfl⟩)
        go_ret
        exact ⟨by rw [hr.out]; rfl, _, rfl⟩
      · have hroom : j + pk.size ≤ sk.size := by
          have := Lib.index_room sk.data.toList pk.data.toList (by rw [hi]; omega)
          rw [hi] at this
          have a1 : sk.data.toList.length = sk.size := by simp
          have a2 : pk.data.toList.length = pk.size := by simp
          omega
        have HK3 : Hid (r = Wc.mids ((ms.drop (k + 1)).map bl) (bl (sk.extract (j + pk.size) sk.size))) := by
          have := HK2.out
          unfold Wc.mids at this
          unfold bl at this
          rw [hi, if_neg (by omega)] at this
          show r = _
          rw [bl_extract]
          unfold bl
          have a1 : sk.data.toList.length = sk.size := by simp
          have a2 : pk.data.toList.length = pk.size := by simp
          rw [← a1, List.take_length, ← a2]
          simpa using this
        clear HK2 ho
        go_wp2_with (go_at_call 22; refine (Try.strings_Index _ _ m _ (by omega) (HM.out _)).mono ?_; rintro e w' ⟨rfl, rfl⟩)
        go_round
        case rel => exact ⟨k + 1, _, by omega, by go_num, rfl, by simp; omega, HK3⟩
        case measure => simp [intOf]; omega
    · go_wp2
      go_ret
      have : r = true := by
        have := HK.out
        rw [List.drop_of_length_le (by omega)] at this
        simpa [Wc.mids] using this
      exact ⟨by rw [this]; rfl, _, rfl⟩

theorem getD_map_bl (ss : List ByteArray) (i : Nat) : (ss.map bl).getD i [] = bl (ss.getD i ByteArray.empty) := by
  rw [List.getD_eq_getElem?_getD, List.getD_eq_getElem?_getD, List.getElem?_map]
  cases ss[i]? <;> rfl

theorem getLastD_getD (l : List (List UInt8)) : l.getLastD [] = l.getD (l.length - 1) [] := by
  rw [List.getLastD_eq_getLast?, List.getLast?_eq_getElem?, List.getD_eq_getElem?_getD]

theorem match_any (b off cap : Nat) (ss : List ByteArray) (s : ByteArray) (m : Int) (w : World) (hn0 : 0 < ss.length) (hn : ss.length ≤ 65536) (hs : s.size ≤ 4000000) (hcap : ss.length ≤ cap)
    (hsz : ∀ i, (ss.getD i ByteArray.empty).size ≤ 4000000)
    (hm : w.cell? ⟨0, 0, none⟩ = some (.int .i64 m))
    (hc : ∀ i, i < ss.length → w.cell? ⟨b, off + i, none⟩ = some (.string (ss.getD i ByteArray.empty))) :
    Calls Try.prog 18 #[.slice (some ⟨b, off, none⟩) ss.length cap, .string s] w fun e w' => Ans (Wc.wild (ss.map bl) (bl s)) w e w' := by
  by_cases h1 : ss.length = 1
  · have e : Wc.wild (ss.map bl) (bl s) = (bl s == bl (ss.getD 0 ByteArray.empty)) := by
      unfold Wc.wild
      rw [if_pos (by simpa using h1), ← getD_map_bl, List.headD_eq_head?_getD, List.head?_eq_getElem?, List.getD_eq_getElem?_getD]
    rw [e, h1]
    exact match_one b off cap _ s w (by have := hc 0 hn0; simpa using this)
  · obtain ⟨q, hq⟩ : ∃ q, ss.length = q + 2 := ⟨ss.length - 2, by omega⟩
    have hms : (ss.tail.dropLast).length = q := by simp; omega
    have hg : ∀ i, i < q → (ss.tail.dropLast).getD i ByteArray.empty = ss.getD (i + 1) ByteArray.empty := by
      intro i hi
      rw [List.getD_eq_getElem?_getD, List.getD_eq_getElem?_getD, List.getElem?_dropLast, if_pos (by simp; omega), List.getElem?_tail]
    rw [hq]
    refine match_more b off cap q s (ss.getD 0 ByteArray.empty) (ss.getD (q + 1) ByteArray.empty) ss.tail.dropLast m _ w (by omega) hs (hsz _) (hsz _) (by omega) hms ?_ hm ?_ ?_ ?_ ?_
    · intro i
      by_cases hi : i < q
      · rw [hg i hi]; exact hsz _
      · rw [List.getD_eq_getElem?_getD, List.getElem?_eq_none (by omega)]
        show (0 : Nat) ≤ _
        omega
    · have := hc 0 hn0; simpa using this
    · exact hc (q + 1) (by omega)
    · intro i hi
      rw [hg i hi, show off + 1 + i = off + (i + 1) from by omega]
      exact hc (i + 1) (by omega)
    · have hh : (ss.map bl).headD [] = bl (ss.getD 0 ByteArray.empty) := by
        rw [← getD_map_bl, List.headD_eq_head?_getD, List.head?_eq_getElem?, List.getD_eq_getElem?_getD]
      have hl : (ss.map bl).getLastD [] = bl (ss.getD (q + 1) ByteArray.empty) := by
        rw [getLastD_getD, getD_map_bl, List.length_map, hq]; rfl
      unfold Wc.wild
      rw [if_neg (by simpa using h1), hh, hl, bl_extract]
      have a1 : ∀ x : ByteArray, (bl x).length = x.size := fun x => by simp [bl]
      have a2 : (ss.map bl).tail.dropLast = (ss.tail.dropLast).map bl := by simp
      rw [a1, a1, a1, a2]

set_option maxHeartbeats 400000 in
theorem zz_match (b off cap : Nat) (ss : List ByteArray) (s : ByteArray) (m : Int) (w : World) (hn0 : 0 < ss.length) (hn : ss.length ≤ 65536) (hs : s.size ≤ 4000000) (hcap : ss.length ≤ cap)
    (hsz : ∀ i, (ss.getD i ByteArray.empty).size ≤ 4000000)
    (hm : w.cell? ⟨0, 0, none⟩ = some (.int .i64 m))
    (hc : ∀ i, i < ss.length → w.cell? ⟨b, off + i, none⟩ = some (.string (ss.getD i ByteArray.empty))) :
    Calls Try.prog 12 #[.slice (some ⟨b, off, none⟩) ss.length cap, .string s] w fun e w' => Ans (Wc.wild (ss.map bl) (bl s)) w e w' := by
  have h := match_any b off cap ss s m w hn0 hn hs hcap hsz hm hc
  generalize Wc.wild (ss.map bl) (bl s) = r at *
  have H : Hid (Calls Try.prog 18 #[.slice (some ⟨b, off, none⟩) ss.length cap, .string s] w fun e w' => Ans r w e w') := h
  clear h hsz hc hm hs hn0 hn hcap
  go_enter Try.func12, Try.ntmps12
  go_wp2_with fail
  refine (Hid.out H : Calls _ _ _ _ _).mono ?_
  rintro e w' ⟨rfl, n, rfl⟩
  go_wp2
  go_ret
  exact ⟨rfl, n, rfl⟩
end Go.Proofs.Qxb6603290a
