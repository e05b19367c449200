/-
  zzInClass (9), isWord (10), ZZIsWord (6), zzWord (7), zzBytes_.. (5, 8): contracts.
-/
import Derived.Test.Qxb6604375aProg
import Derived.Test.Qxb6604375aPlain
import Derived.WalkKit
namespace Go.Proofs.Qxb6604375a
open Go.RowKit

theorem ret_bool {a b : Bool} (h : a = b) : Ending.returned (.bool a) = Ending.returned (.bool b) := by rw [h]

set_option maxHeartbeats 400000 in
theorem inClass_any (c e : Int) (w : World) (h0 : 0 ≤ c) (h1 : c ≤ 255) :
    Calls Try.prog 9 #[.int .u8 c, .int .u8 e] w fun r w' => r = .returned (.bool (inC e c)) ∧ w' = w := by
  by_cases he : c = e
  · have HI : Hid (inC e c = true) := inC_extra he
    have hb : (c == e) = true := beq_iff_eq.2 he
    clear he
    go_enter Try.func9, Try.ntmps9
    go_wp2
    go_ret
    rw [HI.out]
    exact ⟨rfl, rfl⟩
  · have hb : (c == e) = false := beq_eq_false_iff_ne.2 he
    by_cases hl : 97 ≤ c ∧ c ≤ 122
    · have HI : Hid (inC e c = true) := inC_letter hl.1 hl.2
      obtain ⟨hl1, hl2⟩ := hl
      clear he
      go_enter Try.func9, Try.ntmps9
      go_wp2
      go_ret
      rw [HI.out]
      exact ⟨rfl, rfl⟩
    · by_cases hd : 48 ≤ c ∧ c ≤ 57
      · have HI : Hid (inC e c = true) := inC_digit hd.1 hd.2
        obtain ⟨hd1, hd2⟩ := hd
        clear he
        go_enter Try.func9, Try.ntmps9
        go_wp2
        go_ret
        exact ⟨ret_bool (by rw [HI.out]; exact decide_eq_true (by omega)), rfl⟩
      · have HI : Hid (inC e c = false) := inC_none he (by omega) (by omega)
        clear he
        go_enter Try.func9, Try.ntmps9
        go_wp2
        go_ret
        exact ⟨ret_bool (by rw [HI.out]; exact decide_eq_false (by omega)), rfl⟩

set_option maxHeartbeats 400000 in
theorem isWord_any (s : ByteArray) (e : Int) (w : World) (hs : s.size ≤ 1048576) :
    Calls Try.prog 10 #[.string s, .int .u8 e] w fun r w' => r = .returned (.bool (wordB e s.data.toList)) ∧ w' = w := by
  have hll : s.data.toList.length = s.size := by simp
  have HLL : Hid (s.data.toList.length = s.size) := hll
  clear hll
  go_enter Try.func10, Try.ntmps10
  go_wp2
  go_loop [5] (fun v => ∃ k : Nat, k ≤ s.size ∧ v = .int .i64 k ∧ okL e (s.data.toList.take k) = true) (fun v => s.size - (intOf v).toNat)
  case atStart => exact ⟨0, Nat.zero_le _, rfl, rfl⟩
  case round =>
    obtain ⟨k, hk, rfl, hok⟩ := hrel
    have HOK : Hid (okL e (s.data.toList.take k) = true) := hok
    clear hok
    by_cases hlt : k < s.size
    · have HT : Hid (okL e (s.data.toList.take (k + 1)) = (okL e (s.data.toList.take k) && inC e s[k].toNat)) := okL_take e s.data.toList k (by rw [HLL.out]; exact hlt)
      have hb1 : (0 : Int) ≤ (s[k].toNat : Int) := by omega
      have hb2 : (s[k].toNat : Int) ≤ 255 := by have := s[k].toNat_lt; omega
      by_cases hl : 97 ≤ (s[k].toNat : Int) ∧ (s[k].toNat : Int) ≤ 122
      · have HI : Hid (inC e s[k].toNat = true) := inC_letter hl.1 hl.2
        obtain ⟨hl1, hl2⟩ := hl
        go_wp2
        go_round
        case rel => exact ⟨k + 1, by omega, by go_num, by rw [HT.out, HOK.out, HI.out]; rfl⟩
        case measure => simp [intOf]; omega
      · by_cases hd : 48 ≤ (s[k].toNat : Int) ∧ (s[k].toNat : Int) ≤ 57
        · have HI : Hid (inC e s[k].toNat = true) := inC_digit hd.1 hd.2
          obtain ⟨hd1, hd2⟩ := hd
          clear hl
          go_wp2
          go_round
          case rel => exact ⟨k + 1, by omega, by go_num, by rw [HT.out, HOK.out, HI.out]; rfl⟩
          case measure => simp [intOf]; omega
        · by_cases he : (s[k].toNat : Int) = e
          · have HI : Hid (inC e s[k].toNat = true) := inC_extra he
            have hbe : ((s[k].toNat : Int) != e) = false := by rw [he]; simp
            clear he
            go_wp2
            all_goals
              go_round
              case rel => exact ⟨k + 1, by omega, by go_num, by rw [HT.out, HOK.out, HI.out]; rfl⟩
              case measure => simp [intOf]; omega
          · have HI : Hid (inC e s[k].toNat = false) := inC_none he (by omega) (by omega)
            have HW : Hid (wordB e s.data.toList = false) := wordB_bad (okL_bad e s.data.toList k (by rw [HLL.out]; exact hlt) HI.out)
            have hbe : ((s[k].toNat : Int) != e) = true := bne_iff_ne.2 he
            clear he HT
            go_wp2
            all_goals
              go_ret
              rw [HW.out]
              exact ⟨rfl, rfl⟩
    · have HW : Hid (wordB e s.data.toList = !s.data.toList.isEmpty) := by
        have h := HOK.out
        rw [List.take_of_length_le (by rw [HLL.out]; omega)] at h
        exact wordB_ok h
      go_wp2
      go_ret
      exact ⟨ret_bool (by rw [HW.out, ByteArray.toList_eq]), rfl⟩

theorem zzIsWord_any (s : ByteArray) (e : Int) (w : World) (hs : s.size ≤ 1048576) :
    Calls Try.prog 6 #[.string s, .int .u8 e] w fun r w' => r = .returned (.bool (wordB e s.data.toList)) ∧ w' = w := by
  go_enter Try.func6, Try.ntmps6
  go_wp2_with fail
  refine (isWord_any s e w hs).mono ?_
  rintro r w' ⟨rfl, hw⟩
  subst w'
  go_wp2
  go_ret
  exact ⟨rfl, rfl⟩

set_option maxHeartbeats 400000 in
theorem zzWord_any (s : ByteArray) (e : Int) (w : World) (hs : s.size ≤ 1048576) :
    Calls Try.prog 7 #[.string s, .int .u8 e] w fun r w' => r = .returned (.bool (wordB e s.data.toList)) ∧ w' = w := by
  have hll : s.data.toList.length = s.size := by simp
  have HLL : Hid (s.data.toList.length = s.size) := hll
  clear hll
  go_enter Try.func7, Try.ntmps7
  go_wp2
  go_loop [5, 6] (fun vg v => ∃ k g : Nat, k ≤ s.size ∧ v = .int .i64 k ∧ vg = .int .i64 g ∧ g ≤ k ∧ cntL e (s.data.toList.take k) = g) (fun _ v => s.size - (intOf v).toNat)
  case atStart => exact ⟨0, 0, Nat.zero_le _, rfl, rfl, Nat.le_refl _, rfl⟩
  case round =>
    obtain ⟨k, g, hk, rfl, rfl, hgk, hok⟩ := hrel
    have HOK : Hid (cntL e (s.data.toList.take k) = g) := hok
    clear hok
    by_cases hlt : k < s.size
    · have HT : Hid (cntL e (s.data.toList.take (k + 1)) = cntL e (s.data.toList.take k) + if inC e s[k].toNat then 1 else 0) := cntL_take e s.data.toList k (by rw [HLL.out]; exact hlt)
      have hb1 : (0 : Int) ≤ (s[k].toNat : Int) := by omega
      have hb2 : (s[k].toNat : Int) ≤ 255 := by have := s[k].toNat_lt; omega
      go_wp2_with fail
      refine (inClass_any _ e w hb1 hb2).mono ?_
      rintro r w' ⟨rfl, hw⟩
      subst w'
      by_cases hI : inC e s[k].toNat = true
      · rw [hI]
        have HT2 : Hid (cntL e (s.data.toList.take (k + 1)) = g + 1) := by show _ = _; rw [HT.out, HOK.out, if_pos hI]
        clear hI HT HOK
        go_wp2
        go_round
        case rel => exact ⟨k + 1, g + 1, by omega, by go_num, by go_num, by omega, HT2.out⟩
        case measure => simp [intOf]; omega
      · have hI2 : inC e s[k].toNat = false := by simpa using hI
        rw [hI2]
        have HT2 : Hid (cntL e (s.data.toList.take (k + 1)) = g) := by show _ = _; rw [HT.out, HOK.out, if_neg hI, Nat.add_zero]
        clear hI hI2 HT HOK
        go_wp2
        go_round
        case rel => exact ⟨k + 1, g, by omega, by go_num, rfl, by omega, HT2.out⟩
        case measure => simp [intOf]; omega
    · have HW : Hid (wordB e s.data.toList = (decide (0 < s.size) && decide (g = s.size))) := by
        have h := HOK.out
        rw [List.take_of_length_le (by rw [HLL.out]; omega)] at h
        show _ = _
        rw [wordB_cnt, h, HLL.out]
      by_cases h0 : 0 < s.size
      · by_cases hg : g = s.size
        · have hgb : ((g : Int) == (s.size : Int)) = true := beq_iff_eq.2 (by omega)
          have HW2 : Hid (wordB e s.data.toList = true) := by show _ = _; rw [HW.out]; simp [h0, hg]
          clear hg HW
          go_wp2
          go_ret
          rw [HW2.out]
          exact ⟨rfl, rfl⟩
        · have hgb : ((g : Int) == (s.size : Int)) = false := beq_eq_false_iff_ne.2 (by omega)
          have HW2 : Hid (wordB e s.data.toList = false) := by show _ = _; rw [HW.out]; simp [hg]
          clear hg HW
          go_wp2
          go_ret
          rw [HW2.out]
          exact ⟨rfl, rfl⟩
      · have HW2 : Hid (wordB e s.data.toList = false) := by show _ = _; rw [HW.out]; simp [h0]
        clear HW
        go_wp2
        go_ret
        rw [HW2.out]
        exact ⟨rfl, rfl⟩

theorem bytes5_yes (s : ByteArray) (e : Int) (w : World) (h : s.size ≤ 1048576) :
    Calls Try.prog 5 #[.string s, .int .u8 e] w fun r w' => r = .returned (.bool true) ∧ w' = w := by
  go_enter Try.func5, Try.ntmps5
  go_wp2
  go_ret
  exact ⟨rfl, rfl⟩

theorem bytes5_no (s : ByteArray) (e : Int) (w : World) (h : 1048576 < s.size) :
    Calls Try.prog 5 #[.string s, .int .u8 e] w fun r w' => r = .returned (.bool false) ∧ w' = w := by
  go_enter Try.func5, Try.ntmps5
  go_wp2
  go_ret
  exact ⟨rfl, rfl⟩

theorem bytes8_yes (s : ByteArray) (e : Int) (w : World) (h : s.size ≤ 1048576) :
    Calls Try.prog 8 #[.string s, .int .u8 e] w fun r w' => r = .returned (.bool true) ∧ w' = w := by
  go_enter Try.func8, Try.ntmps8
  go_wp2
  go_ret
  exact ⟨rfl, rfl⟩

theorem bytes8_no (s : ByteArray) (e : Int) (w : World) (h : 1048576 < s.size) :
    Calls Try.prog 8 #[.string s, .int .u8 e] w fun r w' => r = .returned (.bool false) ∧ w' = w := by
  go_enter Try.func8, Try.ntmps8
  go_wp2
  go_ret
  exact ⟨rfl, rfl⟩
end Go.Proofs.Qxb6604375a
