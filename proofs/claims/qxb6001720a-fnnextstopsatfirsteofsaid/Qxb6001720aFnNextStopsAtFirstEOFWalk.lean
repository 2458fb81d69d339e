/-
  The walk of 'FnNextStopsAtFirstEOF'.
-/
import Derived.Test.Qxb6001720aRows
import Derived.WalkKit
import Derived.ProofKit
import Derived.OpenShut
import Derived.ShutString
import Derived.ChangeOld
import Derived.Below
import Derived.Test.Qxb6001720aNext
namespace Go.Proofs.Qxb6001720a.fnNextStopsAtFirstEOF
open Go.ChangeShapes Go.WideShapes Go.ChangeAt Go.RowKit
open Go.ChangeMaps (open_string shut_string)
set_option linter.unusedVariables false


/-- WHAT THE WALK IS TOLD OF A SLICE OF INTEGERS THAT CAME IN: it is nil; or it leads to a row of 'cap' cells, the numbers 'zs' (the first 'len' are its elements, the rest its spare room), each fitting its kind. -/
def IsRow (k : IntKind) (w : World) (a : Option Addr) (len cap : Nat) (zs : List Int) : Prop :=
  (a = none ∧ len = 0 ∧ cap = 0 ∧ zs = []) ∨
  ∃ x, a = some x ∧ len ≤ cap ∧ cap ≤ maxLen ∧ zs.length = cap ∧ (∀ i, i < zs.length → w.cell? (x.add i) = some (.int k (zs.getD i 0))) ∧ ∀ n ∈ zs, (Lit.int k n).wf = true

set_option maxHeartbeats 400000 in
theorem bytes26_any (a : Option Addr) (len cap : Nat) (i j : Int) (w0 : len ≤ maxLen) (w : World) :
    Calls Try.prog 26 #[.slice a len cap, .int .i64 i, .int .i64 j] w fun e w' => e = .returned (.bool (decide (len ≤ 1048576))) ∧ w' = w := by
  unfold maxLen at w0
  by_cases h : len ≤ 1048576
  · have hb : decide (len ≤ 1048576) = true := by simpa using h
    have HB : Hid (decide (len ≤ 1048576) = true) := hb
    clear hb
    go_enter Try.func26, Try.ntmps26
    go_wp2
    go_ret
    rw [HB.out]; exact ⟨rfl, rfl⟩
  · have hb : decide (len ≤ 1048576) = false := by simpa using h
    have HB : Hid (decide (len ≤ 1048576) = false) := hb
    clear hb
    go_enter Try.func26, Try.ntmps26
    go_wp2
    go_ret
    rw [HB.out]; exact ⟨rfl, rfl⟩

theorem walk_empty (a : Option Addr) (cap : Nat) (a1 a2 : Int) (w : World) :
    Calls Try.prog 9 #[.slice a 0 cap, .int .i64 a1, .int .i64 a2] w fun e w' => e = .returned (.bool true) ∧ Below w.heap.size w w' := by
  go_enter Try.func9, Try.ntmps9
  go_wp2_with fail
  refine (bytes26_any _ _ _ _ _ (Nat.zero_le _) _).mono ?_
  rintro e w' ⟨rfl, rfl⟩
  go_wp2_with fail
  go_ret
  exact ⟨rfl, Below.refl _ _⟩

theorem walk_long (a : Option Addr) (len cap : Nat) (a1 a2 : Int) (w0 : len ≤ maxLen) (h : 65536 < len) (w : World) :
    Calls Try.prog 9 #[.slice a len cap, .int .i64 a1, .int .i64 a2] w fun e w' => e = .returned (.bool true) ∧ Below w.heap.size w w' := by
  have w0' := w0
  unfold maxLen at w0'
  go_enter Try.func9, Try.ntmps9
  go_wp2_with fail
  refine (bytes26_any _ _ _ _ _ w0 _).mono ?_
  rintro e w' ⟨rfl, rfl⟩
  go_wp2_with fail
  all_goals (go_ret; exact ⟨rfl, Below.refl _ _⟩)

/-- the position of the parser behind c calls: s + c, but no further than e -/
def posAt (s e c : Nat) : Nat := if s + c ≤ e then s + c else e

theorem posAt_zero (s e : Nat) (h : s ≤ e) : posAt s e 0 = s := by unfold posAt; rw [if_pos (by omega)]; rfl
theorem posAt_le (s e c : Nat) (h : s ≤ e) : s ≤ posAt s e c ∧ posAt s e c ≤ e := by unfold posAt; split <;> omega
theorem posAt_in (s e c : Nat) (h : s + c ≤ e) : posAt s e c = s + c := by unfold posAt; rw [if_pos h]
theorem posAt_out (s e c : Nat) (h : ¬ s + c ≤ e) : posAt s e c = e := by unfold posAt; rw [if_neg h]
theorem posAt_next (zs : List Int) (s e c : Nat) (hs : s ≤ e) (h0 : zs.getD e 0 = 0) (hn : ∀ j, s ≤ j → j < e → zs.getD j 0 ≠ 0) : nxt zs (posAt s e c) = posAt s e (c + 1) := by
  by_cases h : s + c < e
  · rw [posAt_in s e c (by omega), posAt_in s e (c + 1) (by omega)]
    unfold nxt
    rw [if_neg (hn _ (by omega) h)]; rfl
  · have h1 : posAt s e c = e := by unfold posAt; split <;> omega
    have h2 : posAt s e (c + 1) = e := by unfold posAt; split <;> omega
    rw [h1, h2]
    unfold nxt
    rw [if_pos h0]

set_option maxHeartbeats 1000000 in
theorem walk_in (b off len cap : Nat) (zs : List Int) (s c : Nat) (w : World) (hl : len ≤ 65536) (h0 : 0 < len) (hb : b < w.heap.size) (hcell : ∀ j, j < len → w.cell? ⟨b, off + j, none⟩ = some (.int .i64 (zs.getD j 0)))
    (hlast : zs.getD (len - 1) 0 = 0) (hs : s < len) (hc : c ≤ 65536) :
    Calls Try.prog 9 #[.slice (some ⟨b, off, none⟩) len cap, .int .i64 s, .int .i64 c] w fun e w' => e = .returned (.bool true) ∧ Below w.heap.size w w' := by
  have t0 : decide (len ≤ 1048576) = true := by simp; omega
  have t1 : decide (65536 < (len : Int)) = false := by simp; omega
  have t2 : ((len : Int) == 0) = false := by rw [beq_eq_false_iff_ne]; omega
  have t3 : decide ((s : Int) < 0) = false := by simp
  have t4 : decide (len ≤ s) = false := by simp; omega
  have t5 : decide ((c : Int) < 0) = false := by simp
  have t6 : decide (65536 < (c : Int)) = false := by simp; omega
  have hcl := hcell (len - 1) (by omega)
  rw [hlast] at hcl
  have HC : Hid (∀ j, j < len → w.cell? ⟨b, off + j, none⟩ = some (.int .i64 (zs.getD j 0))) := hcell
  have HL : Hid (zs.getD (len - 1) 0 = 0) := hlast
  clear hcell hlast
  go_enter Try.func9, Try.ntmps9
  go_wp2_with fail
  refine (bytes26_any _ _ _ _ _ (by unfold maxLen; omega) _).mono ?_
  rintro e w' ⟨rfl, rfl⟩
  go_wp2_with fail
  refine (cloneInts_any b off len cap zs _ (by omega) hb HC.out).mono ?_
  rintro e w1 ⟨rfl, hbel1, hsz1, ccs, hccs, hrow1, hkinds⟩
  clear hcl
  have HB1 : Hid (Below w'.heap.size w' w1) := hbel1
  have HZ1 : Hid (w1.heap.size = w'.heap.size + 1) := hsz1
  have HR1 : Hid (Row w1 w'.heap.size ccs 3) := hrow1
  have HK : Hid (∀ j, j < len → ccs[j]? = some (.int .i64 (zs.getD j 0))) := hkinds
  clear hbel1 hsz1 hrow1 hkinds hccs
  go_wp2_with fail
  go_loop [7] (fun t => ∃ k : Nat, s ≤ k ∧ k < len ∧ (∀ j, s ≤ j → j < k → zs.getD j 0 ≠ 0) ∧ t = .int .i64 k) (fun t => len - (intOf t).toNat)
  case atStart => exact ⟨s, Nat.le_refl _, hs, fun j a b => by omega, rfl⟩
  case round =>
    obtain ⟨k, hk1, hk2, hk3, rfl⟩ := hrel
    have HN : Hid (∀ j, s ≤ j → j < k → zs.getD j 0 ≠ 0) := hk3
    clear hk3
    have hc1 : w1.cell? ⟨w'.heap.size, k, none⟩ = some (.int .i64 (zs[k]?.getD 0)) := by
      rw [HR1.out.cell]; simpa using HK.out k hk2
    by_cases hz : zs[k]?.getD 0 = 0
    · have hz' : (zs[k]?.getD 0 != 0) = false := by simpa using hz
      have HZ : Hid (zs.getD k 0 = 0) := by simpa [Hid] using hz
      rw [hz] at hc1
      clear hz hz'
      go_wp2_with fail
      refine (makeParser_any w'.heap.size 0 len len s zs w1 (by omega) HR1.out.lt (fun j hj => by rw [Nat.zero_add, HR1.out.cell]; exact HK.out j hj)).mono ?_
      rintro e w2 ⟨rfl, hbel2, hsz2, ⟨tcs, htcs, hrowT, htoks⟩, hrowP⟩
      have HB2 : Hid (Below w'.heap.size w' w2) := HB1.out.trans (hbel2.mono (by rw [HZ1.out]; omega))
      have HR2 : Hid (Row w2 w'.heap.size ccs 3) := HR1.out.below hbel2 HR1.out.lt
      have HRT : Hid (Row w2 w1.heap.size tcs 54) := hrowT
      have HTK : Hid (Toks tcs zs len) := htoks
      have HRP : Hid (Row w2 (w1.heap.size + 1) (PRow w1.heap.size len s) 57) := hrowP
      clear hbel2 hsz2 htcs hrowT htoks hrowP hc1
      go_wp2_with fail
      go_loopw [9] (fun t wr => ∃ m : Nat, m ≤ c ∧ t = .int .i64 m ∧ Below w'.heap.size w' wr ∧ Row wr w'.heap.size ccs 3 ∧ Row wr w1.heap.size tcs 54 ∧ Row wr (w1.heap.size + 1) (PRow w1.heap.size len (posAt s k m)) 57) (fun t _ => c - (intOf t).toNat)
      case atStart => exact ⟨0, Nat.zero_le _, rfl, HB2.out, HR2.out, HRT.out, by rw [posAt_zero s k hk1]; exact HRP.out⟩
      case round =>
        obtain ⟨m, hm, rfl, hbw, hrc, hrt, hrp⟩ := hrel
        have HBW : Hid (Below w'.heap.size w' wr) := hbw
        have HRC : Hid (Row wr w'.heap.size ccs 3) := hrc
        have HRTW : Hid (Row wr w1.heap.size tcs 54) := hrt
        have HRPW : Hid (Row wr (w1.heap.size + 1) (PRow w1.heap.size len (posAt s k m)) 57) := hrp
        clear hbw hrc hrt hrp
        by_cases hmc : m < c
        · have HNX : Hid (nxt zs (posAt s k m) = posAt s k (m + 1)) := posAt_next zs s k m hk1 HZ.out HN.out
          by_cases hin : s + m ≤ k
          · have hrp : Row wr (w1.heap.size + 1) (PRow w1.heap.size len (s + m)) 57 := by rw [← posAt_in s k m hin]; exact HRPW.out
            have HRQ : Hid (Row wr (w1.heap.size + 1) (PRow w1.heap.size len (s + m)) 57) := hrp
            have HNY : Hid (nxt zs (s + m) = posAt s k (m + 1)) := by rw [← posAt_in s k m hin]; exact HNX.out
            clear hrp
            go_wp2_with fail
            refine (zzNext_any (w1.heap.size + 1) w1.heap.size len (s + m) zs tcs wr (by omega) (by omega) HRQ.out HRTW.out HTK.out).mono ?_
            rintro e w3 ⟨rfl, hg, hr3⟩
            rw [HNY.out] at hr3
            have HB3 : Hid (Below w'.heap.size w' w3) := HBW.out.grown hg (by have := HRC.out.lt; omega) (fun q hq => by have := HZ1.out; simp at hq; omega)
            have HC3 : Hid (Row w3 w'.heap.size ccs 3) := HRC.out.grown hg (by have := HZ1.out; simp; omega)
            have HT3 : Hid (Row w3 w1.heap.size tcs 54) := HRTW.out.grown hg (by simp)
            have HP3 : Hid (Row w3 (w1.heap.size + 1) (PRow w1.heap.size len (posAt s k (m + 1))) 57) := hr3
            clear hg hr3
            have hcw : w3.cell? ⟨w'.heap.size, s + m, none⟩ = some (.int .i64 (zs.getD (s + m) 0)) := by rw [HC3.out.cell]; exact HK.out (s + m) (by omega)
            generalize zs.getD (s + m) 0 = z at hcw
            go_wp2_with fail
            go_roundw
            case rel => exact ⟨m + 1, by omega, by go_num, HB3.out, HC3.out, HT3.out, HP3.out⟩
            case measure => simp [intOf]; omega
          · have hrp : Row wr (w1.heap.size + 1) (PRow w1.heap.size len k) 57 := by
              have := HRPW.out
              rw [posAt_out s k m hin] at this; exact this
            have HRQ : Hid (Row wr (w1.heap.size + 1) (PRow w1.heap.size len k) 57) := hrp
            have HNY : Hid (nxt zs k = posAt s k (m + 1)) := by
              have := HNX.out
              rw [posAt_out s k m hin] at this; exact this
            clear hrp
            go_wp2_with fail
            refine (zzNext_any (w1.heap.size + 1) w1.heap.size len k zs tcs wr (by omega) (by omega) HRQ.out HRTW.out HTK.out).mono ?_
            rintro e w3 ⟨rfl, hg, hr3⟩
            rw [HNY.out] at hr3
            have HB3 : Hid (Below w'.heap.size w' w3) := HBW.out.grown hg (by have := HRC.out.lt; omega) (fun q hq => by have := HZ1.out; simp at hq; omega)
            have HC3 : Hid (Row w3 w'.heap.size ccs 3) := HRC.out.grown hg (by have := HZ1.out; simp; omega)
            have HT3 : Hid (Row w3 w1.heap.size tcs 54) := HRTW.out.grown hg (by simp)
            have HP3 : Hid (Row w3 (w1.heap.size + 1) (PRow w1.heap.size len (posAt s k (m + 1))) 57) := hr3
            clear hg hr3
            have hcw : w3.cell? ⟨w'.heap.size, k, none⟩ = some (.int .i64 (zs.getD k 0)) := by rw [HC3.out.cell]; exact HK.out k (by omega)
            generalize zs.getD k 0 = z at hcw
            go_wp2_with fail
            go_roundw
            case rel => exact ⟨m + 1, by omega, by go_num, HB3.out, HC3.out, HT3.out, HP3.out⟩
            case measure => simp [intOf]; omega
        · obtain rfl : m = c := by omega
          by_cases hin : s + m ≤ k
          · have HRQ : Hid (Row wr (w1.heap.size + 1) (PRow w1.heap.size len (s + m)) 57) := by rw [← posAt_in s k m hin]; exact HRPW.out
            go_wp2_with fail
            refine (parserAt_any (w1.heap.size + 1) w1.heap.size len (s + m) wr HRQ.out).mono ?_
            rintro e w3 ⟨rfl, rfl⟩
            go_wp2_with fail
            go_ret
            exact ⟨rfl, HBW.out⟩
          · have HRQ : Hid (Row wr (w1.heap.size + 1) (PRow w1.heap.size len k) 57) := by
              have := HRPW.out
              rw [posAt_out s k m hin] at this; exact this
            go_wp2_with fail
            refine (parserAt_any (w1.heap.size + 1) w1.heap.size len k wr HRQ.out).mono ?_
            rintro e w3 ⟨rfl, rfl⟩
            go_wp2_with fail
            go_ret
            exact ⟨rfl, HBW.out⟩
    · have hz' : (zs[k]?.getD 0 != 0) = true := by simpa using hz
      have HZ : Hid (zs.getD k 0 ≠ 0) := by simpa [Hid] using hz
      clear hz
      have hk4 : k + 1 < len := by
        have h1 := HL.out
        by_cases hkl : k = len - 1
        · rw [← hkl] at h1; exact absurd h1 HZ.out
        · omega
      go_wp2_with fail
      go_round
      case rel => exact ⟨k + 1, by omega, hk4, fun j a b => by
        by_cases hjk : j = k
        · subst hjk; exact HZ.out
        · exact HN.out j a (by omega), by go_num⟩
      case measure => simp [intOf]; omega

set_option maxHeartbeats 400000 in
theorem walk_out (b off len cap : Nat) (z : Int) (a1 a2 : Int) (w : World) (hl : len ≤ 65536) (h0 : 0 < len) (hcl : w.cell? ⟨b, off + (len - 1), none⟩ = some (.int .i64 z))
    (hn : ¬ (z = 0 ∧ 0 ≤ a1 ∧ a1 < len ∧ 0 ≤ a2 ∧ a2 ≤ 65536)) :
    Calls Try.prog 9 #[.slice (some ⟨b, off, none⟩) len cap, .int .i64 a1, .int .i64 a2] w fun e w' => e = .returned (.bool true) ∧ Below w.heap.size w w' := by
  have t0 : decide (len ≤ 1048576) = true := by simp; omega
  have t1 : decide (65536 < (len : Int)) = false := by simp; omega
  have t2 : ((len : Int) == 0) = false := by rw [beq_eq_false_iff_ne]; omega
  have HN : Hid (¬ (z = 0 ∧ 0 ≤ a1 ∧ a1 < len ∧ 0 ≤ a2 ∧ a2 ≤ 65536)) := hn
  clear hn
  by_cases hz : z = 0
  · subst hz
    go_enter Try.func9, Try.ntmps9
    go_wp2_with fail
    refine (bytes26_any _ _ _ _ _ (by unfold maxLen; omega) _).mono ?_
    rintro e w' ⟨rfl, rfl⟩
    go_wp2_with fail
    all_goals first | (go_ret; exact ⟨rfl, Below.refl _ _⟩) | exact absurd ⟨trivial, by omega, by omega, by omega, by omega⟩ HN.out
  · have hz' : (z != 0) = true := by simpa using hz
    clear hz
    go_enter Try.func9, Try.ntmps9
    go_wp2_with fail
    refine (bytes26_any _ _ _ _ _ (by unfold maxLen; omega) _).mono ?_
    rintro e w' ⟨rfl, rfl⟩
    go_wp2_with fail
    go_ret
    exact ⟨rfl, Below.refl _ _⟩

theorem walk (a0 : Option Addr) (len0 cap0 : Nat) (z0 : List Int) (a1 : Int) (a2 : Int) (w : World) (w0 : IsRow .i64 w a0 len0 cap0 z0) (w1 : (Lit.int .i64 a1).wf = true) (w2 : (Lit.int .i64 a2).wf = true) :
    Calls Try.prog 9 #[.slice a0 len0 cap0, .int .i64 a1, .int .i64 a2] w fun e w' => e = .returned (.bool true) ∧ Below w.heap.size w w' := by
  rcases w0 with ⟨rfl, rfl, rfl, rfl⟩ | ⟨x, rfl, hlc, hcm, hz, hcell, -⟩
  · exact walk_empty _ _ _ _ _
  · by_cases hlong : 65536 < len0
    · exact walk_long _ _ _ _ _ (Nat.le_trans hlc hcm) hlong _
    · by_cases h0 : len0 = 0
      · subst h0; exact walk_empty _ _ _ _ _
      · obtain ⟨b, off, rfl, hc⟩ := ints_at hcell (by omega)
        by_cases hin : z0.getD (len0 - 1) 0 = 0 ∧ 0 ≤ a1 ∧ a1 < len0 ∧ 0 ≤ a2 ∧ a2 ≤ 65536
        · obtain ⟨g1, g2, g3, g4, g5⟩ := hin
          obtain ⟨s, rfl⟩ := Int.eq_ofNat_of_zero_le g2
          obtain ⟨c, rfl⟩ := Int.eq_ofNat_of_zero_le g4
          have h1 := hc 0 (by omega)
          exact walk_in b off len0 cap0 z0 s c w (by omega) (by omega) (World.block_lt_of_cell? _ _ h1) (fun j hj => hc j (by omega)) g1 (by omega) (by omega)
        · exact walk_out b off len0 cap0 _ a1 a2 w (by omega) (by omega) (hc (len0 - 1) (by omega)) hin

end Go.Proofs.Qxb6001720a.fnNextStopsAtFirstEOF
