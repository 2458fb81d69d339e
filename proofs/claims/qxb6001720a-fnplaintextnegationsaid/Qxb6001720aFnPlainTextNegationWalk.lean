/-
  The walk of 'FnPlainTextNegation'.
-/
import Derived.Test.Qxb6001720aRows
import Derived.WalkKit
import Derived.ProofKit
import Derived.OpenShut
import Derived.ShutString
import Derived.Test.Qxb6001720aPlainText
namespace Go.Proofs.Qxb6001720a.fnPlainTextNegation
open Go.ChangeShapes Go.WideShapes Go.ChangeAt Go.RowKit
open Go.ChangeMaps (open_string shut_string)
set_option linter.unusedVariables false      -- a walk need not use every 'w<i>' (that an integer argument fits its kind)


set_option maxHeartbeats 400000 in
theorem bytes25_any (s : ByteArray) (i : Int) (w0 : s.size ≤ maxLen) (w : World) :
    Calls Try.prog 25 #[.string s, .int .i64 i] w fun e w' => e = .returned (.bool (decide (s.size ≤ 1048576))) ∧ w' = w := by
  unfold maxLen at w0
  by_cases h : s.size ≤ 1048576
  · have hb : decide (s.size ≤ 1048576) = true := by simpa using h
    have HB : Hid (decide (s.size ≤ 1048576) = true) := hb
    clear hb
    go_enter Try.func25, Try.ntmps25
    go_wp2
    go_ret
    rw [HB.out]; exact ⟨rfl, rfl⟩
  · have hb : decide (s.size ≤ 1048576) = false := by simpa using h
    have HB : Hid (decide (s.size ≤ 1048576) = false) := hb
    clear hb
    go_enter Try.func25, Try.ntmps25
    go_wp2
    go_ret
    rw [HB.out]; exact ⟨rfl, rfl⟩

theorem minus_eq (l : List UInt8) : (45 :: l == ((⟨#[45]⟩ : ByteArray) ++ ⟨l.toArray⟩).toList) = true := by
  rw [beq_iff_eq, ByteArray.toList_eq]; simp

set_option maxHeartbeats 1000000 in
theorem walk (a0 : ByteArray) (a1 : Int) (w0 : a0.size ≤ maxLen) (w1 : (Lit.int .i64 a1).wf = true) (w : World) :
    Calls Try.prog 8 #[.string a0, .int .i64 a1] w fun e w' => e = .returned (.bool true) ∧ w.keptBut w' (fun _ => False) := by
  have w0' := w0
  unfold maxLen at w0'
  clear w1
  by_cases hb : a0.size ≤ 65536 ∧ -65536 ≤ a1 ∧ a1 ≤ 65536
  · obtain ⟨b1, b2, b3⟩ := hb
    have t0 : decide (a0.size ≤ 1048576) = true := by simp; omega
    by_cases hz : a0.size = 0
    · have hs : a0.toList.isEmpty = true := by rw [toList_empty_iff]; simpa using hz
      clear hz
      go_enter Try.func8, Try.ntmps8
      go_wp2_with fail
      refine (bytes25_any _ _ w0 _).mono ?_
      rintro e w' ⟨rfl, rfl⟩
      go_wp2_with fail
      go_ret
      exact ⟨rfl, World.keptBut_refl _ _⟩
    · have hs : a0.toList.isEmpty = false := by rw [toList_empty_iff]; simpa using hz
      have hne : a0.data.toList ≠ [] := fun e => hz (by have : a0.data.toList.length = a0.size := by rw [Array.length_toList]; rfl
                                                        rw [← this, e]; rfl)
      have hpt : plainTxt true a0.data.toList a1 = 45 :: plainTxt false a0.data.toList a1 := by simp [plainTxt, hne]
      have hlen := plainTxt_length_le false a0.data.toList a1 b2 b3
      have hsz : a0.data.toList.length = a0.size := by rw [Array.length_toList]; rfl
      rw [hsz] at hlen
      have HPT : Hid (plainTxt true a0.data.toList a1 = 45 :: plainTxt false a0.data.toList a1) := hpt
      have HL : Hid ((plainTxt false a0.data.toList a1).length ≤ a0.size + 65539) := hlen
      clear hz hne hpt hlen hsz
      go_enter Try.func8, Try.ntmps8
      go_wp2_with fail
      refine (bytes25_any _ _ w0 _).mono ?_
      rintro e w' ⟨rfl, rfl⟩
      go_wp2_with fail
      refine (zzPlainText_any true a0 ⟨#[]⟩ a1 b1 b2 b3 _).mono ?_
      rintro e w1 ⟨rfl, hk1⟩
      have HK1 : Hid (w'.keptBut w1 (fun _ => False)) := hk1
      clear hk1
      rw [HPT.out]
      generalize hpl : plainTxt false a0.data.toList a1 = l
      have HLL : Hid (plainTxt false a0.data.toList a1 = l) := hpl
      clear hpl
      go_wp2_with fail
      refine (zzPlainText_any false a0 ⟨#[]⟩ a1 b1 b2 b3 _).mono ?_
      rintro e w2 ⟨rfl, hk2⟩
      have HK2 : Hid (w1.keptBut w2 (fun _ => False)) := hk2
      clear hk2
      rw [HLL.out]
      have hll : l.length ≤ a0.size + 65539 := by rw [← HLL.out]; exact HL.out
      go_wp2
      go_ret
      refine ⟨?_, kept_then HK1.out HK2.out (fun _ f => f.elim)⟩
      exact congrArg (fun b => Ending.returned (.bool b)) (minus_eq l)
  · go_enter Try.func8, Try.ntmps8
    go_wp2_with fail
    refine (bytes25_any _ _ w0 _).mono ?_
    rintro e w' ⟨rfl, rfl⟩
    go_wp2_with fail
    all_goals first | (exfalso; omega) | (go_ret; exact ⟨rfl, World.keptBut_refl _ _⟩)

end Go.Proofs.Qxb6001720a.fnPlainTextNegation
