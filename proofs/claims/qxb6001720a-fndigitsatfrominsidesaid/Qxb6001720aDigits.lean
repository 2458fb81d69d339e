import Derived.Test.Qxb6001720aRows
import Derived.WalkKit
import Derived.ProofKit
import Derived.WalkSpells
import Derived.WalkLawsBesides
namespace Go.Proofs.Qxb6001720a
open Go.ChangeShapes Go.WideShapes Go.ChangeAt Go.RowKit

/-- byte k of s is there and is an ASCII digit -/
def IsDig (s : ByteArray) (k : Nat) : Prop := ∃ h : k < s.size, 48 ≤ (s[k].toNat : Int) ∧ (s[k].toNat : Int) ≤ 57

/-- j is the end of the run of digits of s from i on -/
def RunEnd (s : ByteArray) (i j : Nat) : Prop := i ≤ j ∧ j ≤ s.size ∧ (∀ k, i ≤ k → k < j → IsDig s k) ∧ ¬ IsDig s j

set_option maxHeartbeats 400000 in
theorem digitsAt_any (s : ByteArray) (i : Nat) (hs : s.size ≤ 1048576) (hi : i ≤ s.size) (w : World) :
    Calls Try.prog 35 #[.string s, .int .i64 i] w fun e w' => ∃ j : Nat, RunEnd s i j ∧ e = .returned (.tuple #[.string (s.extract i j), .int .i64 j]) ∧ w' = w := by
  go_enter Try.func35, Try.ntmps35
  go_wp2
  go_loop [1] (fun t => ∃ k : Nat, i ≤ k ∧ k ≤ s.size ∧ (∀ m, i ≤ m → m < k → IsDig s m) ∧ t = .int .i64 k) (fun t => s.size - (intOf t).toNat)
  case atStart => exact ⟨i, Nat.le_refl _, hi, fun m a b => by omega, rfl⟩
  case round =>
    obtain ⟨k, hk1, hk2, hk3, rfl⟩ := hrel
    have HK : Hid (∀ m, i ≤ m → m < k → IsDig s m) := hk3
    clear hk3
    by_cases hd : IsDig s k
    · obtain ⟨hlt, h1, h2⟩ := hd
      have HD : Hid (IsDig s k) := ⟨hlt, h1, h2⟩
      go_wp2
      go_round
      case rel => exact ⟨k + 1, by omega, by omega, fun m a b => by
        by_cases hm : m = k
        · subst hm; exact HD.out
        · exact HK.out m a (by omega), by go_num⟩
      case measure => simp [intOf]; omega
    · have HD : Hid (¬ IsDig s k) := hd
      clear hd
      by_cases hlt : k < s.size
      · have hn : ¬ (48 ≤ (s[k].toNat : Int) ∧ (s[k].toNat : Int) ≤ 57) := fun h => HD.out ⟨hlt, h⟩
        have HN : Hid (¬ (48 ≤ (s[k].toNat : Int) ∧ (s[k].toNat : Int) ≤ 57)) := hn
        clear hn
        go_wp2
        · exact absurd ⟨by assumption, by assumption⟩ HN.out
        all_goals
          go_ret2
          exact ⟨k, ⟨hk1, hk2, HK.out, HD.out⟩, rfl, rfl⟩
      · go_wp2
        go_ret2
        exact ⟨k, ⟨hk1, hk2, HK.out, HD.out⟩, rfl, rfl⟩

set_option maxHeartbeats 400000 in
theorem zzDigitsAt_any (s : ByteArray) (i : Nat) (hs : s.size ≤ 1048576) (hi : i ≤ s.size) (w : World) :
    Calls Try.prog 17 #[.string s, .int .i64 i] w fun e w' => ∃ j : Nat, RunEnd s i j ∧ e = .returned (.tuple #[.string (s.extract i j), .int .i64 j]) ∧ w' = w := by
  go_enter Try.func17, Try.ntmps17
  go_wp2_with fail
  refine (digitsAt_any s i hs hi _).mono ?_
  rintro e w' ⟨j, hj, rfl, rfl⟩
  have HJ : Hid (RunEnd s i j) := hj
  clear hj
  go_wp2
  go_ret2
  exact ⟨j, HJ.out, rfl, rfl⟩

theorem ext_ext (a : ByteArray) (i j k : Nat) (h1 : i ≤ j) (_h2 : j ≤ k) : (a.extract i k).extract (j - i) (k - i) = a.extract j k := by
  rw [ByteArray.extract_extract]
  congr 1 <;> omega

/-- two ends of one run are one -/
theorem RunEnd.inside {s : ByteArray} {i j k e : Nat} (h : RunEnd s i e) (h2 : RunEnd s j k) (hi : i ≤ j) (hj : j ≤ e) : k = e := by
  obtain ⟨_, _, h3, h4⟩ := h
  obtain ⟨_, _, g3, g4⟩ := h2
  by_cases hk : k < e
  · exact absurd (h3 k (by omega) hk) g4
  · by_cases he : e < k
    · exact absurd (g3 e (by omega) he) h4
    · omega

set_option maxHeartbeats 400000 in
theorem bytes19_any (s : ByteArray) (i j : Int) (w0 : s.size ≤ maxLen) (w : World) :
    Calls Try.prog 19 #[.string s, .int .i64 i, .int .i64 j] w fun e w' => e = .returned (.bool (decide (s.size ≤ 1048576))) ∧ w' = w := by
  unfold maxLen at w0
  by_cases h : s.size ≤ 1048576
  · have hb : decide (s.size ≤ 1048576) = true := by simpa using h
    have HB : Hid (decide (s.size ≤ 1048576) = true) := hb
    clear hb
    go_enter Try.func19, Try.ntmps19
    go_wp2
    go_ret
    rw [HB.out]; exact ⟨rfl, rfl⟩
  · have hb : decide (s.size ≤ 1048576) = false := by simpa using h
    have HB : Hid (decide (s.size ≤ 1048576) = false) := hb
    clear hb
    go_enter Try.func19, Try.ntmps19
    go_wp2
    go_ret
    rw [HB.out]; exact ⟨rfl, rfl⟩

set_option maxHeartbeats 400000 in
theorem bytes16_any (s : ByteArray) (i : Int) (w0 : s.size ≤ maxLen) (w : World) :
    Calls Try.prog 16 #[.string s, .int .i64 i] w fun e w' => e = .returned (.bool (decide (s.size ≤ 1048576))) ∧ w' = w := by
  unfold maxLen at w0
  by_cases h : s.size ≤ 1048576
  · have hb : decide (s.size ≤ 1048576) = true := by simpa using h
    have HB : Hid (decide (s.size ≤ 1048576) = true) := hb
    clear hb
    go_enter Try.func16, Try.ntmps16
    go_wp2
    go_ret
    rw [HB.out]; exact ⟨rfl, rfl⟩
  · have hb : decide (s.size ≤ 1048576) = false := by simpa using h
    have HB : Hid (decide (s.size ≤ 1048576) = false) := hb
    clear hb
    go_enter Try.func16, Try.ntmps16
    go_wp2
    go_ret
    rw [HB.out]; exact ⟨rfl, rfl⟩

theorem isDigit_yes (c : Int) (h1 : 48 ≤ c) (h2 : c ≤ 57) (w : World) :
    Calls Try.prog 18 #[.int .u8 c] w fun e w' => e = .returned (.bool true) ∧ w' = w := by
  go_enter Try.func18, Try.ntmps18
  go_wp2
  go_ret
  exact ⟨rfl, rfl⟩

theorem isDigit_no (c : Int) (h : ¬ (48 ≤ c ∧ c ≤ 57)) (w : World) :
    Calls Try.prog 18 #[.int .u8 c] w fun e w' => e = .returned (.bool false) ∧ w' = w := by
  by_cases h1 : 48 ≤ c
  · have h2 : ¬ c ≤ 57 := fun h2 => h ⟨h1, h2⟩
    clear h
    go_enter Try.func18, Try.ntmps18
    go_wp2
    go_ret
    exact ⟨rfl, rfl⟩
  · clear h
    go_enter Try.func18, Try.ntmps18
    go_wp2
    go_ret
    exact ⟨rfl, rfl⟩

/-- a byte of a piece of s -/
theorem get_ext (s : ByteArray) (i e k : Nat) (h : k < (s.extract i e).size) (h' : i + k < s.size) : (s.extract i e)[k] = s[i + k] := by
  rw [ByteArray.getElem_extract]
end Go.Proofs.Qxb6001720a
