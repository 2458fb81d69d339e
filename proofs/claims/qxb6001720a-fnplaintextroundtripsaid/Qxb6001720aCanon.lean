import Derived.Test.Qxb6001720aDigits
import Derived.Test.Qxb6001720aPlainText
namespace Go.Proofs.Qxb6001720a
open Go.ChangeShapes Go.WideShapes Go.ChangeAt Go.RowKit

set_option maxHeartbeats 400000 in
theorem bytes22_any (n : Bool) (s : ByteArray) (i : Int) (w0 : s.size ≤ maxLen) (w : World) :
    Calls Try.prog 22 #[.bool n, .string s, .int .i64 i] w fun e w' => e = .returned (.bool (decide (s.size ≤ 1048576))) ∧ w' = w := by
  unfold maxLen at w0
  by_cases h : s.size ≤ 1048576
  · have hb : decide (s.size ≤ 1048576) = true := by simpa using h
    have HB : Hid (decide (s.size ≤ 1048576) = true) := hb
    clear hb
    go_enter Try.func22, Try.ntmps22
    go_wp2
    go_ret
    rw [HB.out]; exact ⟨rfl, rfl⟩
  · have hb : decide (s.size ≤ 1048576) = false := by simpa using h
    have HB : Hid (decide (s.size ≤ 1048576) = false) := hb
    clear hb
    go_enter Try.func22, Try.ntmps22
    go_wp2
    go_ret
    rw [HB.out]; exact ⟨rfl, rfl⟩

/-- what zzCanonical's yes says -/
def Canon (neg : Bool) (s : ByteArray) (exp : Int) : Prop :=
  (s.size = 0 → neg = false ∧ exp = 0) ∧ (0 < s.size → (∀ k, k < s.size → IsDig s k) ∧ (∃ h : 0 < s.size, (s[0].toNat : Int) ≠ 48) ∧ ∃ h : s.size - 1 < s.size, (s[s.size - 1].toNat : Int) ≠ 48)

def CanonPost (neg : Bool) (s : ByteArray) (exp : Int) (w : World) (e : Ending) (w' : World) : Prop :=
  ∃ b, e = .returned (.bool b) ∧ w' = w ∧ (b = true → Canon neg s exp)

theorem canonical_empty (neg : Bool) (s : ByteArray) (exp : Int) (hs : s.toList.isEmpty = true) (hz : s.size = 0) (w : World) :
    Calls Try.prog 23 #[.bool neg, .string s, .int .i64 exp] w fun e w' => CanonPost neg s exp w e w' := by
  have HZ : Hid (s.size = 0) := hz
  clear hz
  cases neg
  · by_cases hx : exp = 0
    · subst hx
      go_enter Try.func23, Try.ntmps23
      go_wp2
      go_ret
      exact ⟨true, rfl, rfl, fun _ => ⟨fun _ => ⟨rfl, rfl⟩, fun h => absurd HZ.out (by omega)⟩⟩
    · have hx' : (exp == 0) = false := by simpa using hx
      clear hx
      go_enter Try.func23, Try.ntmps23
      go_wp2
      go_ret
      exact ⟨false, rfl, rfl, fun h => by cases h⟩
  · go_enter Try.func23, Try.ntmps23
    go_wp2
    go_ret
    exact ⟨false, rfl, rfl, fun h => by cases h⟩

set_option maxHeartbeats 400000 in
theorem canonical_full (neg : Bool) (s : ByteArray) (exp : Int) (hs : s.toList.isEmpty = false) (hz : 0 < s.size) (hl : s.size ≤ 65536) (w : World) :
    Calls Try.prog 23 #[.bool neg, .string s, .int .i64 exp] w fun e w' => CanonPost neg s exp w e w' := by
  have hz1 : s.size - 1 < s.size := by omega
  go_enter Try.func23, Try.ntmps23
  go_wp2
  go_loop [7] (fun t => ∃ k : Nat, k ≤ s.size ∧ (∀ m, m < k → IsDig s m) ∧ t = .int .i64 k) (fun t => s.size - (intOf t).toNat)
  case atStart => exact ⟨0, Nat.zero_le _, fun m a => by omega, rfl⟩
  case round =>
    obtain ⟨k, hk2, hk3, rfl⟩ := hrel
    have HK : Hid (∀ m, m < k → IsDig s m) := hk3
    clear hk3
    by_cases hlt : k < s.size
    · by_cases hd : 48 ≤ (s[k].toNat : Int) ∧ (s[k].toNat : Int) ≤ 57
      · have HD : Hid (IsDig s k) := ⟨hlt, hd⟩
        obtain ⟨d1, d2⟩ := hd
        go_wp2_with (go_at_call 18; refine (isDigit_yes _ d1 d2 _).mono ?_; rintro e w' ⟨rfl, rfl⟩)
        go_round
        case rel => exact ⟨k + 1, by omega, fun m a => by
          by_cases hm : m = k
          · subst hm; exact HD.out
          · exact HK.out m (by omega), by go_num⟩
        case measure => simp [intOf]; omega
      · have HD : Hid (¬ (48 ≤ (s[k].toNat : Int) ∧ (s[k].toNat : Int) ≤ 57)) := hd
        clear hd
        go_wp2_with (go_at_call 18; refine (isDigit_no _ HD.out _).mono ?_; rintro e w' ⟨rfl, rfl⟩)
        go_ret
        exact ⟨false, rfl, rfl, fun h => by cases h⟩
    · obtain rfl : k = s.size := by omega
      by_cases h0 : (s[0].toNat : Int) = 48
      · have h0' : ((s[0].toNat : Int) != 48) = false := by simpa using h0
        clear h0
        go_wp2
        go_ret
        exact ⟨false, rfl, rfl, fun h => by cases h⟩
      · have h0' : ((s[0].toNat : Int) != 48) = true := by simpa using h0
        have H0 : Hid ((s[0].toNat : Int) ≠ 48) := h0
        clear h0
        by_cases h1 : (s[s.size - 1].toNat : Int) = 48
        · have h1' : ((s[s.size - 1].toNat : Int) != 48) = false := by simpa using h1
          clear h1
          go_wp2
          go_ret
          exact ⟨false, rfl, rfl, fun h => by cases h⟩
        · have h1' : ((s[s.size - 1].toNat : Int) != 48) = true := by simpa using h1
          have H1 : Hid ((s[s.size - 1].toNat : Int) ≠ 48) := h1
          clear h1
          go_wp2
          go_ret
          exact ⟨true, rfl, rfl, fun _ => ⟨fun h => by omega, fun _ => ⟨HK.out, ⟨hz, H0.out⟩, ⟨hz1, H1.out⟩⟩⟩⟩

theorem canonical_any (neg : Bool) (s : ByteArray) (exp : Int) (hl : s.size ≤ 65536) (w : World) :
    Calls Try.prog 23 #[.bool neg, .string s, .int .i64 exp] w fun e w' => CanonPost neg s exp w e w' := by
  by_cases h : s.size = 0
  · exact canonical_empty neg s exp (by rw [toList_empty_iff]; simpa using h) h w
  · exact canonical_full neg s exp (by rw [toList_empty_iff]; simpa using h) (by omega) hl w
end Go.Proofs.Qxb6001720a
