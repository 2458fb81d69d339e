/-
  The walk of 'FnBoolAtRoundTrip'.
-/
import Derived.Test.Qxb6001720aRows
import Derived.WalkKit
import Derived.ProofKit
import Derived.OpenShut
import Derived.ShutString
import Derived.ChangeOld
import Derived.Below
import Derived.Test.Qxb6001720aBoolTail
namespace Go.Proofs.Qxb6001720a.fnBoolAtRoundTrip
open Go.ChangeShapes Go.WideShapes Go.ChangeAt Go.RowKit
open Go.ChangeMaps (open_string shut_string)
set_option linter.unusedVariables false


/-- WHAT THE WALK IS TOLD OF A SLICE OF INTEGERS THAT CAME IN: it is nil; or it leads to a row of 'cap' cells, the numbers 'zs' (the first 'len' are its elements, the rest its spare room), each fitting its kind. -/
def IsRow (k : IntKind) (w : World) (a : Option Addr) (len cap : Nat) (zs : List Int) : Prop :=
  (a = none ∧ len = 0 ∧ cap = 0 ∧ zs = []) ∨
  ∃ x, a = some x ∧ len ≤ cap ∧ cap ≤ maxLen ∧ zs.length = cap ∧ (∀ i, i < zs.length → w.cell? (x.add i) = some (.int k (zs.getD i 0))) ∧ ∀ n ∈ zs, (Lit.int k n).wf = true

set_option maxHeartbeats 400000 in
theorem bytes11_any (b : Bool) (a : Option Addr) (len cap : Nat) (w0 : len ≤ maxLen) (w : World) :
    Calls Try.prog 11 #[.bool b, .slice a len cap] w fun e w' => e = .returned (.bool (decide (len ≤ 1048576))) ∧ w' = w := by
  unfold maxLen at w0
  by_cases h : len ≤ 1048576
  · have hb : decide (len ≤ 1048576) = true := by simpa using h
    have HB : Hid (decide (len ≤ 1048576) = true) := hb
    clear hb
    go_enter Try.func11, Try.ntmps11
    go_wp2
    go_ret
    rw [HB.out]; exact ⟨rfl, rfl⟩
  · have hb : decide (len ≤ 1048576) = false := by simpa using h
    have HB : Hid (decide (len ≤ 1048576) = false) := hb
    clear hb
    go_enter Try.func11, Try.ntmps11
    go_wp2
    go_ret
    rw [HB.out]; exact ⟨rfl, rfl⟩

theorem walk_long (b : Bool) (a : Option Addr) (len cap : Nat) (w0 : len ≤ maxLen) (h : 1048576 < len) (w : World) :
    Calls Try.prog 3 #[.bool b, .slice a len cap] w fun e w' => e = .returned (.bool true) ∧ w.keptBut w' (fun _ => False) := by
  have w0' := w0
  unfold maxLen at w0'
  have t0 : decide (len ≤ 1048576) = false := by simp; omega
  go_enter Try.func3, Try.ntmps3
  go_wp2_with fail
  refine (bytes11_any _ _ _ _ w0 _).mono ?_
  rintro e w' ⟨rfl, rfl⟩
  go_wp2_with fail
  go_ret
  exact ⟨rfl, World.keptBut_refl _ _⟩

/-- make([]byte, 0, m + len) -/
theorem run_make_buf (C : Int) (c : Nat) (hC : C = c) (hc : c ≤ 2097152) (w : World) :
    (Instr.makeSlice 22 (.int .i64 0) (.int .i64 C)).run Try.prog w = .ok (.slice (some ⟨w.heap.size, 0, none⟩) 0 c) (w.alloc (.cells (madeCells #[.int .u8 0] c) 5)) := by
  subst hC
  obtain ⟨i, hi, hzz⟩ := Option.map_eq_some_iff.1 Try.info5b
  simp only [Prod.mk.injEq] at hzz
  obtain ⟨hz, hs, hb⟩ := hzz
  have hr := run_make (P := Try.prog) w 22 5 i _ Try.underlying22 hi hz .i64 .i64 0 c (by omega) (by omega) (by rw [hb]; omega) (by omega)
  simp only [Int.toNat_natCast, hs, Nat.mul_one] at hr
  exact hr

theorem came_made (W : World) (cs : Array Value) (t : TypeId) (n : Nat) (hn : cs.size = n) {B : Nat} (hB : W.heap.size = B) : Came (W.alloc (.cells cs t)) 1 (some ⟨B, 0, none⟩) B 0 0 n [] := by
  subst hB
  refine ⟨Nat.zero_le _, fun _ => rfl, fun _ => by simp, rfl, fun j u h => by simp at h, fun j hj => ?_⟩
  have hj' : j < cs.size := by omega
  refine ⟨?_, ?_⟩
  · simp [hj']
  · simp

/-- the bytes of a slice that has been appended to -/
theorem bs_of_cells {w : World} {g o : Nat} {ks : List Value} {l : List UInt8} {n : Nat} (hk : ks = cellsOf l) (hn : l.length = n) (h : ∀ j, j < n * 1 → w.cell? ⟨g, o + j, none⟩ = ([] ++ ks)[j]?) : Bs w g o l := by
  subst hk
  intro j hj
  rw [h j (by omega)]
  simp [cellsOf, hj]

set_option maxHeartbeats 1000000 in
theorem walk_true (a : Option Addr) (len cap : Nat) (tl : List UInt8) (w : World) (hlen : len ≤ 1048576)
    (hclone : Calls Try.prog 12 #[.slice a len cap] w fun e w' => ∃ ta lcap, e = .returned (.slice ta len lcap) ∧ Below w.heap.size w w' ∧ TailOk w' ta len lcap tl) :
    Calls Try.prog 3 #[.bool true, .slice a len cap] w fun e w' => e = .returned (.bool true) ∧ w.keptBut w' (fun _ => False) := by
  obtain ⟨i0, hi, hz0, hz1, hz2⟩ := info_parts Try.info5b
  have t0 : decide (len ≤ 1048576) = true := by simp; omega
  have HCL : Hid (Calls Try.prog 12 #[.slice a len cap] w fun e w' => ∃ ta lcap, e = .returned (.slice ta len lcap) ∧ Below w.heap.size w w' ∧ TailOk w' ta len lcap tl) := hclone
  clear hclone
  go_enter Try.func3, Try.ntmps3
  go_wp2_with fail
  refine (bytes11_any _ _ _ _ (by unfold maxLen; omega) _).mono ?_
  rintro e w0 ⟨rfl, rfl⟩
  go_wp2_with fail
  refine HCL.out.mono ?_
  rintro e w1 ⟨ta, lcap, rfl, hb1, ht1⟩
  have HB1 : Hid (Below w0.heap.size w0 w1) := hb1
  have HT1 : Hid (TailOk w1 ta len lcap tl) := ht1
  clear hb1 ht1 HCL
  have hmk := run_make_buf (4 + (len : Int)) (4 + len) (by omega) (by omega) w1
  obtain ⟨W, hW⟩ : ∃ W, W = w1.alloc (.cells (madeCells #[.int .u8 0] (4 + len)) 5) := ⟨_, rfl⟩
  have hcm : Came W 1 (some ⟨w1.heap.size, 0, none⟩) w1.heap.size 0 0 (4 + len) [] := by rw [hW]; exact came_made _ _ _ _ (size_madeCells _ _) rfl
  have HKW : Hid (w0.keptBut W (fun _ => False)) := by rw [hW]; exact World.keptBut_trans (HB1.out.frame _) (World.keptBut_alloc _ _ _)
  have HS0 : Hid (w0.heap.size ≤ w1.heap.size) := HB1.out.size
  have HTW : Hid (TailOk W ta len lcap tl) := HT1.out.kept (by rw [hW]; simp) (fun B j hB _ _ => by rw [hW]; exact World.cell?_alloc_past _ _ _ hB)
  have HNB : Hid (∀ B, ta = some (⟨B, 0, none⟩ : Addr) → 0 < len → B ≠ w1.heap.size) := by
    intro B hB h0 e
    obtain ⟨_, _, h | ⟨B', e', hlt, _⟩⟩ := HT1.out
    · omega
    · have hBB : B' = B := by
        rw [e'] at hB
        exact congrArg Addr.block (Option.some.inj hB)
      omega
  rw [← hW] at hmk
  clear hW
  have hst := Upon.start (e := 5) hcm
  go_wp2_with (at_builtin; go_must (refine wpList_append_upon _ rfl (.tmp 26) (.tmp 27) 22 9 rfl hcm i0 (.int .u8 0) 1 Try.underlying22 hi hz0 hz1 hz2 rfl rfl hst (.string ⟨#[116, 114, 117, 101]⟩) _ _ rfl (Src.ofString _ Try.underlying9 _) (by unfold maxLen; decide) (by decide) ?_))
  intro v3 w3 hup3
  have hsz3 : W.heap.size ≤ w3.heap.size := hup3.kept.size
  have ht3 : TailOk w3 ta len lcap tl := HTW.out.kept hsz3 (fun B j hB e h0 => hup3.old hB (fun q _ hh => HNB.out B e h0 hh.1))
  have HSR : Hid (Src Try.prog 1 22 (.slice ta len lcap) len (cellsOf tl) w3) := ht3.src
  clear ht3 hsz3
  go_wp2_with (at_builtin; go_must (refine wpList_append_upon _ rfl (.tmp 29) (.tmp 30) 22 22 rfl hcm i0 (.int .u8 0) 1 Try.underlying22 hi hz0 hz1 hz2 rfl rfl hup3 (.slice ta len lcap) len (cellsOf tl) rfl HSR.out (by unfold maxLen; omega) (by omega) ?_))
  intro v4 w4 hup4
  have HT4 : Hid (TailOk w4 ta len lcap tl) := HTW.out.kept hup4.kept.size (fun B j hB e h0 => hup4.old hB (fun q _ hh => HNB.out B e h0 hh.1))
  have HK4 : Hid (w0.keptBut w4 (fun _ => False)) := by
    refine kept_then HKW.out hup4.kept ?_
    rintro p ⟨q, _, rfl⟩
    exact HS0.out
  obtain ⟨g, o', cap', rfl, hle, hcm', hcells⟩ := hup4.value hcm (by unfold maxLen; omega) (.inl (by omega))
  have HLT : Hid (tl.length = len) := HT1.out.1
  have HBS : Hid (Bs w4 g o' (wordOf true ++ tl)) := bs_of_cells (n := 0 + (4 + len)) (by rfl) (by rw [List.length_append, HLT.out]; simp [wordOf, wTrue]) hcells
  have HLB : Hid ((wordOf true ++ tl).length = 4 + len) := by rw [List.length_append, HLT.out]; rfl
  have hg : g < w4.heap.size := by
    have := HBS.out 0 (by rw [HLB.out]; omega)
    exact World.block_lt_of_cell? _ _ this
  unfold maxLen at hcm'
  rw [Nat.zero_add] at *
  clear hup3 hup4 hcells hst hmk hcm
  go_wp2_with fail
  refine (zzBoolAt_any true 4 g o' (4 + len) cap' (wordOf true ++ tl) w4 rfl hg HBS.out HLB.out hle hcm' (by omega) rfl).mono ?_
  rintro e w5 ⟨a5, ha5, rfl, hb5⟩
  rw [Nat.add_sub_cancel_left]
  have HB5 : Hid (Bs w5 g o' (wordOf true ++ tl)) := HBS.out.below hb5 hg
  have HK5 : Hid (w0.keptBut w5 (fun _ => False)) := World.keptBut_trans HK4.out (hb5.frame _)
  have HT5 : Hid (TailOk w5 ta len lcap tl) := HT4.out.kept hb5.size (fun B j hB _ _ => hb5.cell (p := ⟨B, j, none⟩) hB)
  have hst := zzSameText_any g o' cap' ⟨#[116, 114, 117, 101]⟩ w5 (HB5.out.take 4) (by decide)
  rw [show (⟨#[116, 114, 117, 101]⟩ : ByteArray).size = 4 from rfl] at hst
  have HST : Hid (Calls Try.prog 14 #[.slice (some ⟨g, o', none⟩) 4 cap', .string ⟨#[116, 114, 117, 101]⟩] w5 fun e w' => e = .returned (.bool true) ∧ ∃ q, w' = w5.drewN q) := hst
  have HA5 : Hid (4 < cap' → a5 = (⟨g, o' + 4, none⟩ : Addr)) := ha5
  clear hst ha5 hb5
  by_cases hl0 : len = 0
  · subst hl0
    go_wp2_with fail
    refine HST.out.mono ?_
    rintro e w6 ⟨rfl, q, rfl⟩
    go_wp2_with fail
    refine (zzSameBytes_none _ _ _ _ _).mono ?_
    rintro e w7 ⟨rfl, q2, rfl⟩
    go_wp2
    go_ret
    exact ⟨rfl, HK5.out⟩
  · obtain rfl := HA5.out (by omega)
    obtain ⟨_, _, h | ⟨B, rfl, hBl, hBt⟩⟩ := HT5.out
    · exact absurd h hl0
    · have HBT : Hid (Bs w5 B 0 tl) := hBt
      have HBR : Hid (Bs w5 g (o' + 4) tl) := HB5.out.drop 4
      clear hBt
      go_wp2_with fail
      refine HST.out.mono ?_
      rintro e w6 ⟨rfl, q, rfl⟩
      go_wp2_with fail
      refine (zzSameBytes_some g (o' + 4) (cap' - 4) B 0 lcap len tl (w5.drewN q) HBR.out HBT.out HLT.out hlen).mono ?_
      rintro e w7 ⟨rfl, q2, rfl⟩
      go_wp2
      go_ret
      exact ⟨rfl, HK5.out⟩

set_option maxHeartbeats 1000000 in
theorem walk_false (a : Option Addr) (len cap : Nat) (tl : List UInt8) (w : World) (hlen : len ≤ 1048576)
    (hclone : Calls Try.prog 12 #[.slice a len cap] w fun e w' => ∃ ta lcap, e = .returned (.slice ta len lcap) ∧ Below w.heap.size w w' ∧ TailOk w' ta len lcap tl) :
    Calls Try.prog 3 #[.bool false, .slice a len cap] w fun e w' => e = .returned (.bool true) ∧ w.keptBut w' (fun _ => False) := by
  obtain ⟨i0, hi, hz0, hz1, hz2⟩ := info_parts Try.info5b
  have t0 : decide (len ≤ 1048576) = true := by simp; omega
  have HCL : Hid (Calls Try.prog 12 #[.slice a len cap] w fun e w' => ∃ ta lcap, e = .returned (.slice ta len lcap) ∧ Below w.heap.size w w' ∧ TailOk w' ta len lcap tl) := hclone
  clear hclone
  go_enter Try.func3, Try.ntmps3
  go_wp2_with fail
  refine (bytes11_any _ _ _ _ (by unfold maxLen; omega) _).mono ?_
  rintro e w0 ⟨rfl, rfl⟩
  go_wp2_with fail
  refine HCL.out.mono ?_
  rintro e w1 ⟨ta, lcap, rfl, hb1, ht1⟩
  have HB1 : Hid (Below w0.heap.size w0 w1) := hb1
  have HT1 : Hid (TailOk w1 ta len lcap tl) := ht1
  clear hb1 ht1 HCL
  have hmk := run_make_buf (5 + (len : Int)) (5 + len) (by omega) (by omega) w1
  obtain ⟨W, hW⟩ : ∃ W, W = w1.alloc (.cells (madeCells #[.int .u8 0] (5 + len)) 5) := ⟨_, rfl⟩
  have hcm : Came W 1 (some ⟨w1.heap.size, 0, none⟩) w1.heap.size 0 0 (5 + len) [] := by rw [hW]; exact came_made _ _ _ _ (size_madeCells _ _) rfl
  have HKW : Hid (w0.keptBut W (fun _ => False)) := by rw [hW]; exact World.keptBut_trans (HB1.out.frame _) (World.keptBut_alloc _ _ _)
  have HS0 : Hid (w0.heap.size ≤ w1.heap.size) := HB1.out.size
  have HTW : Hid (TailOk W ta len lcap tl) := HT1.out.kept (by rw [hW]; simp) (fun B j hB _ _ => by rw [hW]; exact World.cell?_alloc_past _ _ _ hB)
  have HNB : Hid (∀ B, ta = some (⟨B, 0, none⟩ : Addr) → 0 < len → B ≠ w1.heap.size) := by
    intro B hB h0 e
    obtain ⟨_, _, h | ⟨B', e', hlt, _⟩⟩ := HT1.out
    · omega
    · have hBB : B' = B := by
        rw [e'] at hB
        exact congrArg Addr.block (Option.some.inj hB)
      omega
  rw [← hW] at hmk
  clear hW
  have hst := Upon.start (e := 5) hcm
  go_wp2_with (at_builtin; go_must (refine wpList_append_upon _ rfl (.tmp 26) (.tmp 27) 22 9 rfl hcm i0 (.int .u8 0) 1 Try.underlying22 hi hz0 hz1 hz2 rfl rfl hst (.string ⟨#[102, 97, 108, 115, 101]⟩) _ _ rfl (Src.ofString _ Try.underlying9 _) (by unfold maxLen; decide) (by decide) ?_))
  intro v3 w3 hup3
  have hsz3 : W.heap.size ≤ w3.heap.size := hup3.kept.size
  have ht3 : TailOk w3 ta len lcap tl := HTW.out.kept hsz3 (fun B j hB e h0 => hup3.old hB (fun q _ hh => HNB.out B e h0 hh.1))
  have HSR : Hid (Src Try.prog 1 22 (.slice ta len lcap) len (cellsOf tl) w3) := ht3.src
  clear ht3 hsz3
  go_wp2_with (at_builtin; go_must (refine wpList_append_upon _ rfl (.tmp 29) (.tmp 30) 22 22 rfl hcm i0 (.int .u8 0) 1 Try.underlying22 hi hz0 hz1 hz2 rfl rfl hup3 (.slice ta len lcap) len (cellsOf tl) rfl HSR.out (by unfold maxLen; omega) (by omega) ?_))
  intro v4 w4 hup4
  have HT4 : Hid (TailOk w4 ta len lcap tl) := HTW.out.kept hup4.kept.size (fun B j hB e h0 => hup4.old hB (fun q _ hh => HNB.out B e h0 hh.1))
  have HK4 : Hid (w0.keptBut w4 (fun _ => False)) := by
    refine kept_then HKW.out hup4.kept ?_
    rintro p ⟨q, _, rfl⟩
    exact HS0.out
  obtain ⟨g, o', cap', rfl, hle, hcm', hcells⟩ := hup4.value hcm (by unfold maxLen; omega) (.inl (by omega))
  have HLT : Hid (tl.length = len) := HT1.out.1
  have HBS : Hid (Bs w4 g o' (wordOf false ++ tl)) := bs_of_cells (n := 0 + (5 + len)) (by rfl) (by rw [List.length_append, HLT.out]; simp [wordOf, wFalse]) hcells
  have HLB : Hid ((wordOf false ++ tl).length = 5 + len) := by rw [List.length_append, HLT.out]; rfl
  have hg : g < w4.heap.size := by
    have := HBS.out 0 (by rw [HLB.out]; omega)
    exact World.block_lt_of_cell? _ _ this
  unfold maxLen at hcm'
  rw [Nat.zero_add] at *
  clear hup3 hup4 hcells hst hmk hcm
  go_wp2_with fail
  refine (zzBoolAt_any false 5 g o' (5 + len) cap' (wordOf false ++ tl) w4 rfl hg HBS.out HLB.out hle hcm' (by omega) rfl).mono ?_
  rintro e w5 ⟨a5, ha5, rfl, hb5⟩
  rw [Nat.add_sub_cancel_left]
  have HB5 : Hid (Bs w5 g o' (wordOf false ++ tl)) := HBS.out.below hb5 hg
  have HK5 : Hid (w0.keptBut w5 (fun _ => False)) := World.keptBut_trans HK4.out (hb5.frame _)
  have HT5 : Hid (TailOk w5 ta len lcap tl) := HT4.out.kept hb5.size (fun B j hB _ _ => hb5.cell (p := ⟨B, j, none⟩) hB)
  have hst := zzSameText_any g o' cap' ⟨#[102, 97, 108, 115, 101]⟩ w5 (HB5.out.take 5) (by decide)
  rw [show (⟨#[102, 97, 108, 115, 101]⟩ : ByteArray).size = 5 from rfl] at hst
  have HST : Hid (Calls Try.prog 14 #[.slice (some ⟨g, o', none⟩) 5 cap', .string ⟨#[102, 97, 108, 115, 101]⟩] w5 fun e w' => e = .returned (.bool true) ∧ ∃ q, w' = w5.drewN q) := hst
  have HA5 : Hid (5 < cap' → a5 = (⟨g, o' + 5, none⟩ : Addr)) := ha5
  clear hst ha5 hb5
  by_cases hl0 : len = 0
  · subst hl0
    go_wp2_with fail
    refine HST.out.mono ?_
    rintro e w6 ⟨rfl, q, rfl⟩
    go_wp2_with fail
    refine (zzSameBytes_none _ _ _ _ _).mono ?_
    rintro e w7 ⟨rfl, q2, rfl⟩
    go_wp2
    go_ret
    exact ⟨rfl, HK5.out⟩
  · obtain rfl := HA5.out (by omega)
    obtain ⟨_, _, h | ⟨B, rfl, hBl, hBt⟩⟩ := HT5.out
    · exact absurd h hl0
    · have HBT : Hid (Bs w5 B 0 tl) := hBt
      have HBR : Hid (Bs w5 g (o' + 5) tl) := HB5.out.drop 5
      clear hBt
      go_wp2_with fail
      refine HST.out.mono ?_
      rintro e w6 ⟨rfl, q, rfl⟩
      go_wp2_with fail
      refine (zzSameBytes_some g (o' + 5) (cap' - 5) B 0 lcap len tl (w5.drewN q) HBR.out HBT.out HLT.out hlen).mono ?_
      rintro e w7 ⟨rfl, q2, rfl⟩
      go_wp2
      go_ret
      exact ⟨rfl, HK5.out⟩


theorem walk (a0 : Bool) (a1 : Option Addr) (len1 cap1 : Nat) (z1 : List Int) (w : World) (w1 : IsRow .u8 w a1 len1 cap1 z1) :
    Calls Try.prog 3 #[.bool a0, .slice a1 len1 cap1] w fun e w' => e = .returned (.bool true) ∧ w.keptBut w' (fun _ => False) := by
  have go : ∀ tl, len1 ≤ 1048576 → (Calls Try.prog 12 #[.slice a1 len1 cap1] w fun e w' => ∃ ta lcap, e = .returned (.slice ta len1 lcap) ∧ Below w.heap.size w w' ∧ TailOk w' ta len1 lcap tl) →
      Calls Try.prog 3 #[.bool a0, .slice a1 len1 cap1] w fun e w' => e = .returned (.bool true) ∧ w.keptBut w' (fun _ => False) := by
    intro tl hl h
    cases a0
    · exact walk_false a1 len1 cap1 tl w hl h
    · exact walk_true a1 len1 cap1 tl w hl h
  rcases w1 with ⟨rfl, rfl, rfl, rfl⟩ | ⟨x, rfl, hlc, hcm, hz, hcell, hwf⟩
  · exact go [] (by omega) (clone_nil w)
  · by_cases hlong : 1048576 < len1
    · exact walk_long _ _ _ _ (Nat.le_trans hlc hcm) hlong _
    · by_cases h0 : len1 = 0
      · subst h0
        exact go [] (by omega) (clone_zero x cap1 w)
      · obtain ⟨b, off, rfl, hc⟩ := ints_at hcell (by omega)
        have hbd := range_u8 hwf
        refine go ((z1.take len1).map fun n => UInt8.ofNat n.toNat) (by omega) (clone_some b off len1 cap1 _ w (by omega) (by simp; omega) (World.block_lt_of_cell? _ _ (hc 0 (by omega))) ?_)
        intro j hj
        have hj2 : j < z1.length := by simp at hj; omega
        rw [hc j hj2]
        have hb := hbd j
        have e2 : z1[j]?.getD 0 = z1[j] := by rw [List.getElem?_eq_getElem hj2]; rfl
        have e : z1.getD j 0 = z1[j] := by rw [← e2, List.getD_eq_getElem?_getD]
        rw [e2] at hb
        rw [e]
        simp
        omega

end Go.Proofs.Qxb6001720a.fnBoolAtRoundTrip
