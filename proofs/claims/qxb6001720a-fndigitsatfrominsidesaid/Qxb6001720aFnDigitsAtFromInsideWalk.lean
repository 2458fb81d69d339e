/-
  The walk of 'FnDigitsAtFromInside'.
-/
import Derived.Test.Qxb6001720aRows
import Derived.WalkKit
import Derived.ProofKit
import Derived.OpenShut
import Derived.ShutString
import Derived.Test.Qxb6001720aDigits
namespace Go.Proofs.Qxb6001720a.fnDigitsAtFromInside
open Go.ChangeShapes Go.WideShapes Go.ChangeAt Go.RowKit
open Go.ChangeMaps (open_string shut_string)
set_option linter.unusedVariables false      -- a walk need not use every 'w<i>' (that an integer argument fits its kind)


theorem walk (a0 : ByteArray) (a1 : Int) (a2 : Int) (w0 : a0.size ≤ maxLen) (w1 : (Lit.int .i64 a1).wf = true) (w2 : (Lit.int .i64 a2).wf = true) (w : World) :
    Calls Try.prog 5 #[.string a0, .int .i64 a1, .int .i64 a2] w fun e w' => e = .returned (.bool true) ∧ Grown w w' := by
  have w0' := w0
  unfold maxLen at w0'
  by_cases hs : a0.size ≤ 1048576
  · by_cases hb : 0 ≤ a1 ∧ a1 ≤ a0.size ∧ a1 ≤ a2 ∧ a2 ≤ a0.size
    · obtain ⟨b1, b2, b3, b4⟩ := hb
      obtain ⟨i, rfl⟩ := Int.eq_ofNat_of_zero_le b1
      obtain ⟨j, rfl⟩ := Int.eq_ofNat_of_zero_le (show 0 ≤ a2 by omega)
      clear w1 w2
      go_enter Try.func5, Try.ntmps5
      go_wp2_with fail
      refine (bytes19_any _ _ _ w0 _).mono ?_
      rintro e w' ⟨rfl, rfl⟩
      go_wp2_with fail
      refine (zzDigitsAt_any _ _ hs (by omega) _).mono ?_
      rintro e w' ⟨k, hk, rfl, rfl⟩
      have HK : Hid (RunEnd a0 i k) := hk
      obtain ⟨k1, k2, -, -⟩ := hk
      have hne : (((k - i : Nat) : Int) != (k : Int) - (i : Int)) = false := by
        rw [bne_eq_false_iff_eq]; omega
      by_cases hjk : j ≤ k
      · go_wp2_with fail
        refine (zzDigitsAt_any _ _ hs (by omega) _).mono ?_
        rintro e w' ⟨k', hk', rfl, rfl⟩
        obtain rfl : k' = k := RunEnd.inside HK.out hk' (by omega) hjk
        clear hk'
        go_wp2
        go_ret
        refine ⟨?_, Grown.refl _⟩
        simp [ext_ext a0 i j k' (by omega) hjk]
      · go_wp2
        go_ret
        exact ⟨rfl, Grown.refl _⟩
    · go_enter Try.func5, Try.ntmps5
      go_wp2_with fail
      refine (bytes19_any _ _ _ w0 _).mono ?_
      rintro e w' ⟨rfl, rfl⟩
      go_wp2_with fail
      all_goals first | (exfalso; omega) | (go_ret; exact ⟨rfl, Grown.refl _⟩)
  · go_enter Try.func5, Try.ntmps5
    go_wp2_with fail
    refine (bytes19_any _ _ _ w0 _).mono ?_
    rintro e w' ⟨rfl, rfl⟩
    go_wp2
    go_ret
    exact ⟨rfl, Grown.refl _⟩

end Go.Proofs.Qxb6001720a.fnDigitsAtFromInside
