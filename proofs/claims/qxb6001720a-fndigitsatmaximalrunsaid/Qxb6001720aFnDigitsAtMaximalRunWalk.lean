/-
  The walk of 'FnDigitsAtMaximalRun'.
-/
import Derived.Test.Qxb6001720aRows
import Derived.WalkKit
import Derived.ProofKit
import Derived.OpenShut
import Derived.ShutString
import Derived.Test.Qxb6001720aDigits
namespace Go.Proofs.Qxb6001720a.fnDigitsAtMaximalRun
open Go.ChangeShapes Go.WideShapes Go.ChangeAt Go.RowKit
open Go.ChangeMaps (open_string shut_string)
set_option linter.unusedVariables false      -- a walk need not use every 'w<i>' (that an integer argument fits its kind)


set_option maxHeartbeats 1000000 in
theorem walk (a0 : ByteArray) (a1 : Int) (w0 : a0.size ≤ maxLen) (w1 : (Lit.int .i64 a1).wf = true) (w : World) :
    Calls Try.prog 4 #[.string a0, .int .i64 a1] w fun e w' => e = .returned (.bool true) ∧ Grown w w' := by
  have w0' := w0
  unfold maxLen at w0'
  by_cases hs : a0.size ≤ 1048576
  · by_cases hb : 0 ≤ a1 ∧ a1 ≤ a0.size
    · obtain ⟨b1, b2⟩ := hb
      obtain ⟨i, rfl⟩ := Int.eq_ofNat_of_zero_le b1
      clear w1
      have t1 : decide (1048576 < (a0.size : Int)) = false := by simp; omega
      have t2 : decide ((i : Int) < 0) = false := by simp
      have t3 : decide (a0.size < i) = false := by simp; omega
      go_enter Try.func4, Try.ntmps4
      go_wp2_with fail
      refine (bytes16_any _ _ w0 _).mono ?_
      rintro e w' ⟨rfl, rfl⟩
      go_wp2_with fail
      refine (zzDigitsAt_any _ _ hs (by omega) _).mono ?_
      rintro e w' ⟨k, hk, rfl, rfl⟩
      have HK : Hid (RunEnd a0 i k) := hk
      obtain ⟨k1, k2, -, -⟩ := hk
      have t4 : decide (k < i) = false := by simp; omega
      have t5 : decide (a0.size < k) = false := by simp; omega
      go_wp2_with fail
      go_loop [7] (fun t => ∃ m : Nat, m ≤ k - i ∧ t = .int .i64 m) (fun t => (k - i) - (intOf t).toNat)
      case atStart => exact ⟨0, by omega, rfl⟩
      case round =>
        obtain ⟨m, hm, rfl⟩ := hrel
        by_cases hlt : m < k - i
        · have hx : m < (a0.extract i k).size := by rw [ByteArray.size_extract]; omega
          have hd : 48 ≤ ((a0.extract i k)[m].toNat : Int) ∧ ((a0.extract i k)[m].toNat : Int) ≤ 57 := by
            obtain ⟨h, h1, h2⟩ := HK.out.2.2.1 (i + m) (by omega) (by omega)
            rw [get_ext a0 i k m hx h]; exact ⟨h1, h2⟩
          obtain ⟨d1, d2⟩ := hd
          go_wp2_with (go_at_call 18; refine (isDigit_yes _ d1 d2 _).mono ?_; rintro e w' ⟨rfl, rfl⟩)
          go_round
          case rel => exact ⟨m + 1, by omega, by go_num⟩
          case measure => simp [intOf]; omega
        · by_cases he : k = a0.size
          · have he' : ((k : Int) == (a0.size : Int)) = true := by rw [beq_iff_eq]; omega
            clear he
            go_wp2_with fail
            go_ret
            exact ⟨rfl, Grown.refl _⟩
          · have he' : ((k : Int) == (a0.size : Int)) = false := by rw [beq_eq_false_iff_ne]; omega
            have hk' : k < a0.size := by omega
            have hn : ¬ (48 ≤ (a0[k].toNat : Int) ∧ (a0[k].toNat : Int) ≤ 57) := fun h => HK.out.2.2.2 ⟨hk', h⟩
            have HN : Hid (¬ (48 ≤ (a0[k].toNat : Int) ∧ (a0[k].toNat : Int) ≤ 57)) := hn
            clear he hn
            go_wp2_with (go_at_call 18; refine (isDigit_no _ HN.out _).mono ?_; rintro e w' ⟨rfl, rfl⟩)
            go_ret
            exact ⟨rfl, Grown.refl _⟩
    · go_enter Try.func4, Try.ntmps4
      go_wp2_with fail
      refine (bytes16_any _ _ w0 _).mono ?_
      rintro e w' ⟨rfl, rfl⟩
      go_wp2_with fail
      all_goals first | (exfalso; omega) | (go_ret; exact ⟨rfl, Grown.refl _⟩)
  · go_enter Try.func4, Try.ntmps4
    go_wp2_with fail
    refine (bytes16_any _ _ w0 _).mono ?_
    rintro e w' ⟨rfl, rfl⟩
    go_wp2
    go_ret
    exact ⟨rfl, Grown.refl _⟩

end Go.Proofs.Qxb6001720a.fnDigitsAtMaximalRun
