/-
  The walk of 'FnNextAgreesWithAccept'.
-/
import Derived.Test.Qxb6001720aRows
import Derived.WalkKit
import Derived.ProofKit
import Derived.OpenShut
import Derived.ShutString
import Derived.ChangeOld
import Derived.Below
import Derived.Test.Qxb6001720aAccept
namespace Go.Proofs.Qxb6001720a.fnNextAgreesWithAccept
open Go.ChangeShapes Go.WideShapes Go.ChangeAt Go.RowKit
open Go.ChangeMaps (open_string shut_string)
set_option linter.unusedVariables false


/-- WHAT THE WALK IS TOLD OF A SLICE OF INTEGERS THAT CAME IN: it is nil; or it leads to a row of 'cap' cells, the numbers 'zs' (the first 'len' are its elements, the rest its spare room), each fitting its kind. -/
def IsRow (k : IntKind) (w : World) (a : Option Addr) (len cap : Nat) (zs : List Int) : Prop :=
  (a = none ∧ len = 0 ∧ cap = 0 ∧ zs = []) ∨
  ∃ x, a = some x ∧ len ≤ cap ∧ cap ≤ maxLen ∧ zs.length = cap ∧ (∀ i, i < zs.length → w.cell? (x.add i) = some (.int k (zs.getD i 0))) ∧ ∀ n ∈ zs, (Lit.int k n).wf = true

set_option maxHeartbeats 400000 in
theorem bytes31_any (a : Option Addr) (len cap : Nat) (i j : Int) (w0 : len ≤ maxLen) (w : World) :
    Calls Try.prog 31 #[.slice a len cap, .int .i64 i, .int .i64 j] w fun e w' => e = .returned (.bool (decide (len ≤ 1048576))) ∧ w' = w := by
  unfold maxLen at w0
  by_cases h : len ≤ 1048576
  · have hb : decide (len ≤ 1048576) = true := by simpa using h
    have HB : Hid (decide (len ≤ 1048576) = true) := hb
    clear hb
    go_enter Try.func31, Try.ntmps31
    go_wp2
    go_ret
    rw [HB.out]; exact ⟨rfl, rfl⟩
  · have hb : decide (len ≤ 1048576) = false := by simpa using h
    have HB : Hid (decide (len ≤ 1048576) = false) := hb
    clear hb
    go_enter Try.func31, Try.ntmps31
    go_wp2
    go_ret
    rw [HB.out]; exact ⟨rfl, rfl⟩

/-- outside the law's own bounds: true at once -/
theorem walk_out (a : Option Addr) (len cap : Nat) (a1 a2 : Int) (w0 : len ≤ maxLen) (w : World) (hn : ¬ (len ≤ 65536 ∧ 0 < len ∧ 0 ≤ a1 ∧ a1 < len ∧ a2 ≠ 0)) :
    Calls Try.prog 10 #[.slice a len cap, .int .i64 a1, .int .i64 a2] w fun e w' => e = .returned (.bool true) ∧ Below w.heap.size w w' := by
  have w0' := w0
  unfold maxLen at w0'
  have HN : Hid (¬ (len ≤ 65536 ∧ 0 < len ∧ 0 ≤ a1 ∧ a1 < len ∧ a2 ≠ 0)) := hn
  clear hn
  by_cases hz : a2 = 0
  · subst hz
    go_enter Try.func10, Try.ntmps10
    go_wp2_with fail
    refine (bytes31_any _ _ _ _ _ w0 _).mono ?_
    rintro e w' ⟨rfl, rfl⟩
    go_wp2_with fail
    all_goals (go_ret; exact ⟨rfl, Below.refl _ _⟩)
  · have HZ : Hid (a2 ≠ 0) := hz
    clear hz
    go_enter Try.func10, Try.ntmps10
    go_wp2_with fail
    refine (bytes31_any _ _ _ _ _ w0 _).mono ?_
    rintro e w' ⟨rfl, rfl⟩
    go_wp2_with fail
    all_goals first | (go_ret; exact ⟨rfl, Below.refl _ _⟩) | exact absurd ⟨by omega, by omega, by omega, by omega, HZ.out⟩ HN.out

set_option maxHeartbeats 1000000 in
theorem walk_in (b off len cap : Nat) (zs : List Int) (s : Nat) (k : Int) (w : World) (hl : len ≤ 65536) (h0 : 0 < len) (hb : b < w.heap.size) (hcell : ∀ j, j < len → w.cell? ⟨b, off + j, none⟩ = some (.int .i64 (zs.getD j 0)))
    (hs : s < len) (hk : k ≠ 0) :
    Calls Try.prog 10 #[.slice (some ⟨b, off, none⟩) len cap, .int .i64 s, .int .i64 k] w fun e w' => e = .returned (.bool true) ∧ Below w.heap.size w w' := by
  have t0 : decide (len ≤ 1048576) = true := by simp; omega
  have t1 : decide (65536 < (len : Int)) = false := by simp; omega
  have t2 : ((len : Int) == 0) = false := by rw [beq_eq_false_iff_ne]; omega
  have t3 : decide ((s : Int) < 0) = false := by simp
  have t4 : decide (len ≤ s) = false := by simp; omega
  have t5 : (k == 0) = false := by simpa using hk
  have HKZ : Hid (k ≠ 0) := hk
  have HC : Hid (∀ j, j < len → w.cell? ⟨b, off + j, none⟩ = some (.int .i64 (zs.getD j 0))) := hcell
  clear hcell hk
  go_enter Try.func10, Try.ntmps10
  go_wp2_with fail
  refine (bytes31_any _ _ _ _ _ (by unfold maxLen; omega) _).mono ?_
  rintro e w' ⟨rfl, rfl⟩
  go_wp2_with fail
  refine (cloneInts_any b off len cap zs _ (by omega) hb HC.out).mono ?_
  rintro e w1 ⟨rfl, hbel1, hsz1, ccs, hccs, hrow1, hkinds⟩
  have HB1 : Hid (Below w'.heap.size w' w1) := hbel1
  have HZ1 : Hid (w1.heap.size = w'.heap.size + 1) := hsz1
  have HR1 : Hid (Row w1 w'.heap.size ccs 3) := hrow1
  have HK : Hid (∀ j, j < len → ccs[j]? = some (.int .i64 (zs.getD j 0))) := hkinds
  clear hbel1 hsz1 hrow1 hkinds hccs
  go_wp2_with fail
  refine (makeParser_any w'.heap.size 0 len len s zs w1 (by omega) HR1.out.lt (fun j hj => by rw [Nat.zero_add, HR1.out.cell]; exact HK.out j hj)).mono ?_
  rintro e w2 ⟨rfl, hbel2, hsz2, ⟨tcs, htcs, hrowT, htoks⟩, hrowP⟩
  have HB2 : Hid (Below w'.heap.size w' w2) := HB1.out.trans (hbel2.mono (by rw [HZ1.out]; omega))
  have HZ2 : Hid (w2.heap.size = w1.heap.size + 2) := hsz2
  have HR2 : Hid (Row w2 w'.heap.size ccs 3) := HR1.out.below hbel2 HR1.out.lt
  have HT2 : Hid (Row w2 w1.heap.size tcs 54) := hrowT
  have HTK : Hid (Toks tcs zs len) := htoks
  have HP2 : Hid (Row w2 (w1.heap.size + 1) (PRow w1.heap.size len s) 57) := hrowP
  clear hbel2 hsz2 htcs hrowT htoks hrowP
  go_wp2_with fail
  refine (makeParser_any w'.heap.size 0 len len s zs w2 (by omega) HR2.out.lt (fun j hj => by rw [Nat.zero_add, HR2.out.cell]; exact HK.out j hj)).mono ?_
  rintro e w3 ⟨rfl, hbel3, hsz3, ⟨qcs, hqcs, hrowT, htoks⟩, hrowP⟩
  have HB3 : Hid (Below w'.heap.size w' w3) := HB2.out.trans (hbel3.mono (by rw [HZ2.out, HZ1.out]; omega))
  have HT3 : Hid (Row w3 w1.heap.size tcs 54) := HT2.out.below hbel3 HT2.out.lt
  have HP3 : Hid (Row w3 (w1.heap.size + 1) (PRow w1.heap.size len s) 57) := HP2.out.below hbel3 HP2.out.lt
  have HU3 : Hid (Row w3 w2.heap.size qcs 54) := hrowT
  have HQK : Hid (Toks qcs zs len) := htoks
  have HQ3 : Hid (Row w3 (w2.heap.size + 1) (PRow w2.heap.size len s) 57) := hrowP
  clear hbel3 hsz3 hqcs hrowT htoks hrowP
  go_wp2_with fail
  refine (zzNext_any (w1.heap.size + 1) w1.heap.size len s zs tcs w3 (by omega) (by omega) HP3.out HT3.out HTK.out).mono ?_
  rintro e w4 ⟨rfl, hg, hr⟩
  have HB4 : Hid (Below w'.heap.size w' w4) := HB3.out.grown hg (by have := HB3.out.size; omega) (fun q hq => by have := HZ1.out; simp at hq; omega)
  have HP4 : Hid (Row w4 (w1.heap.size + 1) (PRow w1.heap.size len (nxt zs s)) 57) := hr
  have HU4 : Hid (Row w4 w2.heap.size qcs 54) := HU3.out.grown hg (by have := HZ2.out; simp; omega)
  have HQ4 : Hid (Row w4 (w2.heap.size + 1) (PRow w2.heap.size len s) 57) := HQ3.out.grown hg (by have := HZ2.out; simp; omega)
  clear hg hr
  generalize hz : zs.getD s 0 = z
  have HZS : Hid (zs.getD s 0 = z) := hz
  clear hz
  by_cases hzk : z = k
  · subst hzk
    have HN : Hid (nxt zs s = s + 1) := by unfold nxt; rw [HZS.out, if_neg HKZ.out]; rfl
    go_wp2_with fail
    refine (zzAccept_yes (w2.heap.size + 1) w2.heap.size len s z zs qcs w4 (by omega) (by omega) HQ4.out HU4.out HQK.out HZS.out).mono ?_
    rintro e w5 ⟨rfl, hg, hr⟩
    have HB5 : Hid (Below w'.heap.size w' w5) := HB4.out.grown hg (by have := HB4.out.size; omega) (fun q hq => by have := HZ1.out; have := HZ2.out; simp at hq; omega)
    have HP5 : Hid (Row w5 (w1.heap.size + 1) (PRow w1.heap.size len (s + 1)) 57) := by
      have := HP4.out.grown hg (by have := HZ2.out; simp; omega)
      rw [HN.out] at this; exact this
    have HQ5 : Hid (Row w5 (w2.heap.size + 1) (PRow w2.heap.size len (s + 1)) 57) := hr
    clear hg hr
    go_wp2_with fail
    refine (parserAt_any (w2.heap.size + 1) w2.heap.size len (s + 1) w5 HQ5.out).mono ?_
    rintro e w6 ⟨rfl, rfl⟩
    go_wp2_with fail
    refine (parserAt_any (w1.heap.size + 1) w1.heap.size len (s + 1) _ HP5.out).mono ?_
    rintro e w7 ⟨rfl, rfl⟩
    go_wp2_with fail
    go_ret
    exact ⟨rfl, HB5.out⟩
  · have hzk' : (z == k) = false := by simpa using hzk
    have HNE : Hid (zs.getD s 0 ≠ k) := by rw [HZS.out]; exact hzk
    clear hzk
    go_wp2_with fail
    refine (zzAccept_no (w2.heap.size + 1) w2.heap.size len s k zs qcs w4 (by omega) HQ4.out HU4.out HQK.out HNE.out).mono ?_
    rintro e w5 ⟨rfl, hg, hr⟩
    have HB5 : Hid (Below w'.heap.size w' w5) := HB4.out.grown hg (by have := HB4.out.size; omega) (fun q hq => by have := HZ1.out; have := HZ2.out; simp at hq; omega)
    have HQ5 : Hid (Row w5 (w2.heap.size + 1) (PRow w2.heap.size len s) 57) := hr
    clear hg hr
    go_wp2_with fail
    refine (parserAt_any (w2.heap.size + 1) w2.heap.size len s w5 HQ5.out).mono ?_
    rintro e w6 ⟨rfl, rfl⟩
    go_wp2_with fail
    go_ret
    exact ⟨rfl, HB5.out⟩

theorem walk (a0 : Option Addr) (len0 cap0 : Nat) (z0 : List Int) (a1 : Int) (a2 : Int) (w : World) (w0 : IsRow .i64 w a0 len0 cap0 z0) (w1 : (Lit.int .i64 a1).wf = true) (w2 : (Lit.int .i64 a2).wf = true) :
    Calls Try.prog 10 #[.slice a0 len0 cap0, .int .i64 a1, .int .i64 a2] w fun e w' => e = .returned (.bool true) ∧ Below w.heap.size w w' := by
  rcases w0 with ⟨rfl, rfl, rfl, rfl⟩ | ⟨x, rfl, hlc, hcm, hz, hcell, -⟩
  · exact walk_out _ _ _ _ _ (Nat.zero_le _) _ (by omega)
  · by_cases hin : len0 ≤ 65536 ∧ 0 < len0 ∧ 0 ≤ a1 ∧ a1 < len0 ∧ a2 ≠ 0
    · obtain ⟨g1, g2, g3, g4, g5⟩ := hin
      obtain ⟨b, off, rfl, hc⟩ := ints_at hcell (by omega)
      obtain ⟨s, rfl⟩ := Int.eq_ofNat_of_zero_le g3
      exact walk_in b off len0 cap0 z0 s a2 w g1 g2 (World.block_lt_of_cell? _ _ (hc 0 (by omega))) (fun j hj => hc j (by omega)) (by omega) g5
    · exact walk_out _ _ _ _ _ (Nat.le_trans hlc hcm) _ hin

end Go.Proofs.Qxb6001720a.fnNextAgreesWithAccept
