/-
  The walk of 'FnPlainTextRoundTrip'.
-/
import Derived.Test.Qxb6001720aRows
import Derived.WalkKit
import Derived.ProofKit
import Derived.OpenShut
import Derived.ShutString
import Derived.Test.Qxb6001720aRound
namespace Go.Proofs.Qxb6001720a.fnPlainTextRoundTrip
open Go.ChangeShapes Go.WideShapes Go.ChangeAt Go.RowKit
open Go.ChangeMaps (open_string shut_string)
set_option linter.unusedVariables false      -- a walk need not use every 'w<i>' (that an integer argument fits its kind)


theorem txt_size (neg : Bool) (s : ByteArray) (exp : Int) (b1 : s.size ≤ 65536) (b2 : -65536 ≤ exp) (b3 : exp ≤ 65536) : (⟨(plainTxt neg s.data.toList exp).toArray⟩ : ByteArray).size ≤ 1048576 := by
  rw [size_mk]
  have := plainTxt_length_le neg s.data.toList exp b2 b3
  have hl : s.data.toList.length = s.size := by rw [Array.length_toList]; rfl
  omega

/-- reading the text back, whatever the sign -/
theorem parse_round (neg : Bool) (s : ByteArray) (exp : Int) (b1 : s.size ≤ 65536) (b2 : -65536 ≤ exp) (b3 : exp ≤ 65536) (h : Canon neg s exp) (w : World) :
    Calls Try.prog 24 #[.string ⟨(plainTxt neg s.data.toList exp).toArray⟩] w fun e w' => e = .returned (.tuple #[.bool neg, .string s, .int .i64 exp, .bool true]) ∧ w.keptBut w' (fun _ => False) := by
  obtain ⟨p, z1, hh, t, ht, hsign, hg, htr, hpos, hpa⟩ := round_plain neg s exp h
  have hsz := txt_size neg s exp b1 b2 b3
  rw [← ht] at hsz ⊢
  rcases hsign with ⟨rfl, rfl, g, hc⟩ | ⟨rfl, rfl, g, hc⟩
  · refine (parse_true t z1 hh hsz g hc hg htr hpos w).mono ?_
    rintro e w' ⟨rfl, hk⟩
    rw [hpa]
    exact ⟨rfl, hk⟩
  · refine (parse_false t z1 hh hsz g hc hg htr hpos w).mono ?_
    rintro e w' ⟨rfl, hk⟩
    rw [hpa]
    exact ⟨rfl, hk⟩

set_option maxHeartbeats 1000000 in
theorem walk (a0 : Bool) (a1 : ByteArray) (a2 : Int) (w1 : a1.size ≤ maxLen) (w2 : (Lit.int .i64 a2).wf = true) (w : World) :
    Calls Try.prog 7 #[.bool a0, .string a1, .int .i64 a2] w fun e w' => e = .returned (.bool true) ∧ w.keptBut w' (fun _ => False) := by
  have w1' := w1
  unfold maxLen at w1'
  clear w2
  by_cases hb : a1.size ≤ 65536 ∧ -65536 ≤ a2 ∧ a2 ≤ 65536
  · obtain ⟨b1, b2, b3⟩ := hb
    have t0 : decide (a1.size ≤ 1048576) = true := by simp; omega
    go_enter Try.func7, Try.ntmps7
    go_wp2_with fail
    refine (bytes22_any _ _ _ w1 _).mono ?_
    rintro e w' ⟨rfl, rfl⟩
    go_wp2_with fail
    refine (canonical_any a0 a1 a2 b1 _).mono ?_
    rintro e w' ⟨b, rfl, rfl, hcan⟩
    cases b
    · clear hcan
      go_wp2_with fail
      go_ret
      exact ⟨rfl, World.keptBut_refl _ _⟩
    · have HC : Hid (Canon a0 a1 a2) := hcan rfl
      clear hcan
      go_wp2_with fail
      refine (zzPlainText_any a0 a1 ⟨#[]⟩ a2 b1 b2 b3 _).mono ?_
      rintro e w1 ⟨rfl, hk1⟩
      have HK1 : Hid (w'.keptBut w1 (fun _ => False)) := hk1
      clear hk1
      generalize hpl : plainTxt a0 a1.data.toList a2 = l
      have HLL : Hid (plainTxt a0 a1.data.toList a2 = l) := hpl
      clear hpl
      go_wp2_with fail
      rw [← HLL.out]
      refine (parse_round a0 a1 a2 b1 b2 b3 HC.out _).mono ?_
      rintro e w2 ⟨rfl, hk2⟩
      have HK2 : Hid (w1.keptBut w2 (fun _ => False)) := hk2
      clear hk2
      rw [HLL.out]
      cases a0 <;> go_wp2
      all_goals (go_ret; exact ⟨rfl, kept_then HK1.out HK2.out (fun _ f => f.elim)⟩)
  · go_enter Try.func7, Try.ntmps7
    go_wp2_with fail
    refine (bytes22_any _ _ _ w1 _).mono ?_
    rintro e w' ⟨rfl, rfl⟩
    go_wp2_with fail
    all_goals first | (exfalso; omega) | (go_ret; exact ⟨rfl, World.keptBut_refl _ _⟩)

end Go.Proofs.Qxb6001720a.fnPlainTextRoundTrip
