import Derived.Test.YbulkdauaRows
import Derived.WalkKit
import Derived.WalkLawsBesides
import Derived.WalkSpells
import Derived.Deep.LoopGhost
import Derived.Deep.Light
import Derived.Lib.Strings
namespace Go.Proofs.Ybulkdaua
open Go.RowKit

/-! ### The plain part: lists of bytes -/

/-- The four texts that ask for help. -/
def helpB (l : List UInt8) : Bool := l == [45, 104] || (l == [45, 45, 104] || (l == [45, 104, 101, 108, 112] || l == [45, 45, 104, 101, 108, 112]))

theorem bytes_cons (r : ByteArray) (h : 0 < r.size) : r.toList = r[0] :: (r.extract 1 r.size).toList := by
  rw [ByteArray.toList_eq, ByteArray.toList_eq, Lib.extract_data]
  have h0 : 0 < r.data.toList.length := by simpa using h
  have e : r.data.toList = r.data.toList[0] :: r.data.toList.drop 1 := by
    have := List.drop_eq_getElem_cons h0
    simpa using this
  have t : List.take (r.size - 1) (r.data.toList.drop 1) = r.data.toList.drop 1 := List.take_of_length_le (by simp)
  rw [t]
  exact e

theorem bytes_nil (r : ByteArray) (h : ¬ 0 < r.size) : r.toList = [] := by
  rw [ByteArray.toList_eq]
  apply List.eq_nil_of_length_eq_zero
  simpa using h

theorem dash (b : UInt8) (h : ((b.toNat : Int) == 45) = true) : b = 45 := by
  have h : (b.toNat : Int) = 45 := by simpa using h
  apply UInt8.toNat_inj.1
  show b.toNat = 45
  omega

theorem nodash (b : UInt8) (h : ((b.toNat : Int) == 45) = false) : b ≠ 45 := by
  rintro rfl
  exact absurd h (by decide)

/-- Two dashes have been taken off. -/
theorem help_two (l r : List UInt8) (h : l = 45 :: 45 :: r) : helpB l = (r == [104] || r == [104, 101, 108, 112]) := by
  subst h; simp [helpB]

/-- One dash has been taken off; what is left does not begin with one. -/
theorem help_one (l : List UInt8) (b : UInt8) (r : List UInt8) (h : l = 45 :: b :: r) (hb : b ≠ 45) : helpB l = (b :: r == [104] || b :: r == [104, 101, 108, 112]) := by
  have hb' : (b == 45) = false := by simpa using hb
  subst h; simp [helpB, hb']

theorem help_zero (b : UInt8) (r : List UInt8) (hb : b ≠ 45) : helpB (b :: r) = false := by simp [helpB, hb]

/-! ### The two functions -/

set_option maxHeartbeats 400000 in
theorem help_calls (s : ByteArray) (w : World) : Calls Yba.prog 4 #[.string s] w fun e w' => e = .returned (.bool (helpB s.toList)) ∧ w' = w := by
  by_cases h1 : (s.toList == [45, 104]) = true
  · have e : helpB s.toList = true := by simp [helpB, h1]
    rw [e]
    go_enter Yba.func4, Yba.ntmps4
    go_wp2
    go_ret
    exact ⟨rfl, rfl⟩
  · have h1 : (s.toList == [45, 104]) = false := by simpa using h1
    by_cases h2 : (s.toList == [45, 45, 104]) = true
    · have e : helpB s.toList = true := by simp [helpB, h2]
      rw [e]
      go_enter Yba.func4, Yba.ntmps4
      go_wp2
      go_ret
      exact ⟨rfl, rfl⟩
    · have h2 : (s.toList == [45, 45, 104]) = false := by simpa using h2
      by_cases h3 : (s.toList == [45, 104, 101, 108, 112]) = true
      · have e : helpB s.toList = true := by simp [helpB, h3]
        rw [e]
        go_enter Yba.func4, Yba.ntmps4
        go_wp2
        go_ret
        exact ⟨rfl, rfl⟩
      · have h3 : (s.toList == [45, 104, 101, 108, 112]) = false := by simpa using h3
        by_cases h4 : (s.toList == [45, 45, 104, 101, 108, 112]) = true
        · have e : helpB s.toList = true := by simp [helpB, h4]
          rw [e]
          go_enter Yba.func4, Yba.ntmps4
          go_wp2
          go_ret
          exact ⟨rfl, rfl⟩
        · have h4 : (s.toList == [45, 45, 104, 101, 108, 112]) = false := by simpa using h4
          have e : helpB s.toList = false := by simp only [helpB, h1, h2, h3, h4]; rfl
          rw [e]
          go_enter Yba.func4, Yba.ntmps4
          go_wp2
          go_ret
          exact ⟨rfl, rfl⟩

theorem ret_bool {a b : Bool} (h : a = b) : Ending.returned (.bool a) = .returned (.bool b) := by rw [h]

set_option maxHeartbeats 400000 in
theorem model_calls (s : ByteArray) (hs : s.size ≤ maxLen) (w : World) : Calls Yba.prog 5 #[.string s] w fun e w' => e = .returned (.bool (helpB s.toList)) ∧ w' = w := by
  unfold maxLen at hs
  obtain ⟨v, hv⟩ : ∃ v, v = helpB s.toList := ⟨_, rfl⟩
  rw [← hv]
  have HV : Aside (v = helpB s.toList) := hv
  clear hv
  go_enter Yba.func5, Yba.ntmps5
  go_wp2
  go_loopg [3, 4] 3 (fun g s3 s4 wr => ∃ (d : Nat) (r : ByteArray), d ≤ 2 ∧ g = 3 - d ∧ r.size ≤ 9223372036854775807 ∧ s4 = .int .i64 d ∧ s3 = .string r ∧ w = wr ∧ s.toList = List.replicate d 45 ++ r.toList)
  case atStart => exact ⟨0, s, by omega, rfl, hs, rfl, rfl, rfl, rfl⟩
  case round =>
    obtain ⟨d, r, hd, rfl, hr, rfl, rfl, rfl, hl⟩ := hrel
    have HL : Aside (s.toList = List.replicate d 45 ++ r.toList) := hl
    clear hl
    by_cases h2 : d < 2
    · by_cases h0 : 0 < r.size
      · have hz : (0 : Int) < (r.size : Int) := by omega
        have hz2 : (d : Int) < 2 := by omega
        cases hc : ((r[0].toNat : Int) == 45)
        · have HC : Aside (r[0] ≠ 45) := nodash _ hc
          have HR : Aside (r.toList = r[0] :: (r.extract 1 r.size).toList) := bytes_cons r h0
          by_cases hd0 : d = 0
          · have e : v = false := by
              rw [HV.out, HL.out, hd0, HR.out]
              exact help_zero _ _ HC.out
            have hdz : ((d : Int) == 0) = true := by simp; omega
            subst e
            clear hd0
            go_wp2
            go_ret
            exact ⟨rfl, rfl⟩
          · have hd1 : d = 1 := by omega
            have e : Aside (v = (r.toList == [104] || r.toList == [104, 101, 108, 112])) := by
              show v = _
              rw [HV.out, HL.out, hd1, HR.out]
              exact help_one _ _ _ rfl HC.out
            have hdz : ((d : Int) == 0) = false := by simp; omega
            clear hd0 hd1
            cases hh : (r.toList == [104])
            · go_wp2
              go_ret
              exact ⟨ret_bool (by rw [e.out, hh]; first | rfl | simp), rfl⟩
            · go_wp2
              go_ret
              exact ⟨ret_bool (by rw [e.out, hh]; rfl), rfl⟩
        · have HC : Aside (r[0] = 45) := dash _ hc
          go_wp2
          go_roundg (3 - (d + 1))
          case measure => go_light; omega
          case rel =>
            go_light
            refine ⟨d + 1, r.extract 1 r.size, by omega, rfl, by simp; omega, by simp, rfl, rfl, ?_⟩
            rw [HL.out, bytes_cons r h0, HC.out, List.replicate_succ', List.append_assoc]
            rfl
      · have hz : ¬ (0 : Int) < (r.size : Int) := by omega
        have hz2 : (d : Int) < 2 := by omega
        have HR : Aside (r.toList = []) := bytes_nil r h0
        by_cases hd0 : d = 0
        · have e : v = false := by rw [HV.out, HL.out, hd0, HR.out]; rfl
          have hdz : ((d : Int) == 0) = true := by simp; omega
          subst e
          clear hd0
          go_wp2
          go_ret
          exact ⟨rfl, rfl⟩
        · have hd1 : d = 1 := by omega
          have e : v = false := by rw [HV.out, HL.out, hd1, HR.out]; rfl
          have hdz : ((d : Int) == 0) = false := by simp; omega
          have hh : (r.toList == [104]) = false := by rw [HR.out]; rfl
          have hh2 : (r.toList == [104, 101, 108, 112]) = false := by rw [HR.out]; rfl
          subst e
          clear hd0 hd1
          go_wp2
          go_ret
          exact ⟨by first | rfl | simp, rfl⟩
    · have hd2 : d = 2 := by omega
      have hz2 : ¬ (d : Int) < 2 := by omega
      have e : Aside (v = (r.toList == [104] || r.toList == [104, 101, 108, 112])) := by
        show v = _
        rw [HV.out, HL.out, hd2]
        exact help_two _ _ rfl
      have hdz : ((d : Int) == 0) = false := by simp; omega
      clear hd2
      cases hh : (r.toList == [104])
      · go_wp2
        go_ret
        exact ⟨ret_bool (by rw [e.out, hh]; first | rfl | simp), rfl⟩
      · go_wp2
        go_ret
        exact ⟨ret_bool (by rw [e.out, hh]; rfl), rfl⟩

set_option maxHeartbeats 400000 in
theorem law_calls (s : ByteArray) (hs : s.size ≤ maxLen) (w : World) : Calls Yba.prog 3 #[.string s] w fun e w' => e = .returned (.bool true) ∧ w' = w := by
  have h4 := help_calls s w
  have h5 := model_calls s hs w
  generalize helpB s.toList = v at h4 h5
  go_enter Yba.func3, Yba.ntmps3
  go_wp2_with (first | (go_at_call 4; refine h4.mono ?_; rintro e w' ⟨rfl, rfl⟩) | (go_at_call 5; refine h5.mono ?_; rintro e w' ⟨rfl, rfl⟩))
  go_ret
  exact ⟨by first | rfl | simp, rfl⟩

end Go.Proofs.Ybulkdaua
