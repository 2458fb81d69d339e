import Derived.Test.Qxb6001720aRows
import Derived.WalkKit
import Derived.ProofKit
import Derived.WalkSpells
import Derived.WalkLawsBesides
import Derived.Test.Qxb6001720aPlain
namespace Go.Proofs.Qxb6001720a
open Go.ChangeShapes Go.WideShapes Go.ChangeAt Go.RowKit

theorem Try.info5 : (Try.prog.info? 5).map (fun i => (i.zero, i.size, i.bytes)) = some (some (.int .u8 0), 1, 1) := by kernel_rfl

/-- one byte that has just been laid in a block of its own, as a source -/
theorem src_one (w : World) (c : Int) : Src Try.prog 1 22 (.slice (some ⟨w.heap.size, 0, none⟩) 1 1) 1 [.int .u8 c] (w.alloc (.cells #[.int .u8 c] 5)) := by
  refine Src.ofSlice _ Try.underlying22 ⟨w.heap.size, 0, none⟩ 1 1 [.int .u8 c] rfl ?_ ?_
  · intro j u hj
    match j, hj with
    | 0, hj => simp at hj; subst hj; simp [Addr.add]
  · intro u hu; simp at hu; subst hu; rfl

theorem src_one' (w : World) (c : Int) {B : Nat} (hB : w.heap.size = B) : Src Try.prog 1 22 (.slice (some ⟨B, 0, none⟩) 1 1) 1 [.int .u8 c] (w.alloc (.cells #[.int .u8 c] 5)) := by
  subst hB; exact src_one w c

set_option maxHeartbeats 400000 in
theorem zeros_any (W : World) (ao : Option Addr) (b off len cap : Nat) (olds : List Value) (hc : Came W 1 ao b off len cap olds) (n m : Nat) (ks : List Value) (r : Nat) (w : World) (v : Value)
    (hup : Upon W 5 1 ao b off len cap olds w v m ks r) (hn : len + m + n ≤ 1048576) :
    Calls Try.prog 43 #[v, .int .i64 n] w fun e w' => ∃ v' r', e = .returned v' ∧ Upon W 5 1 ao b off len cap olds w' v' (m + n) (ks ++ List.replicate n (.int .u8 48)) r' := by
  obtain ⟨i0, hi, hz0, hz1, hz2⟩ := info_parts Try.info5
  go_enter Try.func43, Try.ntmps43
  go_wp2
  go_loopw [0, 6] (fun d c wr => ∃ k r', k ≤ n ∧ c = .int .i64 (k : Nat) ∧ Upon W 5 1 ao b off len cap olds wr d (m + k) (ks ++ List.replicate k (.int .u8 48)) r') (fun _ i _ => n - (intOf i).toNat)
  case atStart => exact ⟨0, r, Nat.zero_le _, rfl, by simpa using hup⟩
  case round =>
    obtain ⟨k, r', hk, rfl, hr⟩ := hrel
    by_cases hlt : k < n
    · go_wp2_with (at_builtin; refine wpList_append_upon _ rfl (.tmp 8) (.tmp 9) 22 22 rfl hc i0 (.int .u8 0) 1 Try.underlying22 hi hz0 hz1 hz2 rfl rfl (hr.alloc hc _) _ 1 [.int .u8 48] rfl (src_one _ _) (by unfold maxLen; omega) (by omega) ?_)
      intro v' w' hup'
      go_wp2
      go_roundw
      case rel => exact ⟨k + 1, _, by omega, by go_num, by simpa [List.replicate_succ', Nat.add_assoc] using hup'⟩
      case measure => simp [intOf]; omega
    · obtain rfl : k = n := by omega
      go_wp2
      go_ret
      exact ⟨_, _, rfl, hr⟩

/-- the decimal's own box, read behind appends -/
theorem box_cells {W0 : World} {c0 c1 c2 : Value} {t : TypeId} {e : TypeId} {ao : Option Addr} {b off cap : Nat} {w : World} {v : Value} {m : Nat} {ks : List Value} {r : Nat}
    (hc : Came W0 1 ao b off 0 cap []) (h : Upon (W0.alloc (.cells #[c0, c1, c2] t)) e 1 ao b off 0 cap [] w v m ks r) :
    w.cell? ⟨W0.heap.size, 0, none⟩ = some c0 ∧ w.cell? ⟨W0.heap.size, 1, none⟩ = some c1 ∧ w.cell? ⟨W0.heap.size, 2, none⟩ = some c2 := by
  have hn : ∀ o j, j < r → ¬ (W0.heap.size = b ∧ o = off + 0 * 1 + j) := by
    intro o j hj hh
    have := hc.lt (h.capPos hj)
    omega
  have hb : W0.heap.size < (W0.alloc (.cells #[c0, c1, c2] t)).heap.size := by simp
  refine ⟨?_, ?_, ?_⟩
  · rw [h.old hb (hn 0)]; simp
  · rw [h.old hb (hn 1)]; simp
  · rw [h.old hb (hn 2)]; simp

/-- the count of what has been appended is the length of its cells -/
theorem recount {W : World} {e : TypeId} {ao : Option Addr} {b off len cap : Nat} {olds : List Value} {w : World} {v : Value} {m : Nat} {ks : List Value} {r : Nat} {l : List UInt8}
    (h : Upon W e 1 ao b off len cap olds w v m ks r) (hk : ks = cellsOf l) : Upon W e 1 ao b off len cap olds w v l.length (cellsOf l) r := by
  subst hk
  have := h.ksLen
  rw [cellsOf_length, Nat.mul_one] at this
  rw [this]; exact h

theorem toList_empty_iff (s : ByteArray) : s.toList.isEmpty = decide (s.size = 0) := by
  rw [ByteArray.toList_eq, Bool.eq_iff_iff, List.isEmpty_iff, decide_eq_true_iff]
  show _ ↔ s.data.size = 0
  rw [← Array.length_toList]
  exact List.length_eq_zero_iff.symm

theorem ext_bytes (s : ByteArray) (i j : Nat) : (s.extract i j).data.toList = (s.data.toList.drop i).take (j - i) := by
  simp [ByteArray.data_extract, Array.toList_extract]

theorem ext_head (s : ByteArray) (n : Nat) : (s.extract 0 n).data.toList = s.data.toList.take n := by
  rw [ext_bytes]; simp

theorem ext_tail (s : ByteArray) (n : Nat) : (s.extract n s.size).data.toList = s.data.toList.drop n := by
  rw [ext_bytes]
  refine List.take_of_length_le ?_
  rw [List.length_drop, Array.length_toList]
  exact Nat.le_refl _

set_option maxHeartbeats 400000 in
theorem appendPlain_empty (neg : Bool) (s : ByteArray) (exp : Int) (hs : s.toList.isEmpty = true) (cap : Nat) (ao : Option Addr) (b off : Nat) (w : World) (hc : Came w 1 ao b off 0 cap []) :
    Calls Try.prog 40 #[.agg #[.bool neg, .string s, .int .i64 exp], .slice ao 0 cap] w fun e w' => ∃ v r, e = .returned v ∧ Upon w 5 1 ao b off 0 cap [] w' v 1 (cellsOf [48]) r := by
  obtain ⟨i0, hi, hz0, hz1, hz2⟩ := info_parts Try.info5
  have hc' := Came.alloc hc (.cells #[.bool neg, .string s, .int .i64 exp] 49)
  have hst := Upon.start (e := 5) hc'
  go_enter Try.func40, Try.ntmps40
  go_wp2_with (at_builtin; go_must (refine wpList_append_upon _ rfl (.tmp 9) (.tmp 10) 22 22 rfl hc' i0 (.int .u8 0) 1 Try.underlying22 hi hz0 hz1 hz2 rfl rfl (Upon.alloc hst hc' _) (.slice (some ⟨w.heap.size + 1, 0, none⟩) 1 1) 1 [.int .u8 48] rfl (src_one' _ _ (by simp)) (by unfold maxLen; omega) (by omega) ?_))
  intro v' w' hup
  go_wp2
  go_ret
  exact ⟨_, _, rfl, Upon.unalloc hup⟩

set_option maxHeartbeats 1000000 in
theorem appendPlain_small_true (s : ByteArray) (n : Nat) (hs : s.toList.isEmpty = false) (hl : s.size ≤ 65536) (hn : n ≤ 65536) (cap : Nat) (ao : Option Addr) (b off : Nat) (w : World) (hc : Came w 1 ao b off 0 cap []) :
    Calls Try.prog 40 #[.agg #[.bool true, .string s, .int .i64 (-(n : Int))], .slice ao 0 cap] w fun e w' => ∃ v r m ks, e = .returned v ∧ Upon w 5 1 ao b off 0 cap [] w' v m ks r ∧ ks = cellsOf (45 :: ([48, 46] ++ (List.replicate n 48 ++ s.data.toList))) := by
  obtain ⟨i0, hi, hz0, hz1, hz2⟩ := info_parts Try.info5
  have hc' := Came.alloc hc (.cells #[.bool true, .string s, .int .i64 (-(n : Int))] 49)
  have hst := Upon.start (e := 5) hc'
  go_enter Try.func40, Try.ntmps40
  go_wp2_with (at_builtin; go_must (refine wpList_append_upon _ rfl (.tmp 14) (.tmp 15) 22 22 rfl hc' i0 (.int .u8 0) 1 Try.underlying22 hi hz0 hz1 hz2 rfl rfl (Upon.alloc hst hc' _) (.slice (some ⟨w.heap.size + 1, 0, none⟩) 1 1) 1 [.int .u8 45] rfl (src_one' _ _ (by simp)) (by unfold maxLen; omega) (by omega) ?_))
  intro v1 w1 hup1
  obtain ⟨c0, c1, c2⟩ := box_cells hc hup1
  go_wp2_with (at_builtin; go_must (refine wpList_append_upon _ rfl (.tmp 23) (.const (.string ⟨#[48, 46]⟩)) 22 9 rfl hc' i0 (.int .u8 0) 1 Try.underlying22 hi hz0 hz1 hz2 rfl rfl hup1 (.string ⟨#[48, 46]⟩) _ _ rfl (Src.ofString _ Try.underlying9 _) (by unfold maxLen; decide) (by decide) ?_))
  intro v2 w2 hup2
  clear c0 c1 c2
  obtain ⟨c0, c1, c2⟩ := box_cells hc hup2
  have hm : (⟨#[48, 46]⟩ : ByteArray).size = 2 := rfl
  go_wp2_with fail
  refine (zeros_any _ _ _ _ _ _ _ hc' n _ _ _ _ _ hup2 (by omega)).mono ?_
  rintro e w3 ⟨v3, r3, rfl, hup3⟩
  clear c0 c1 c2
  obtain ⟨c0, c1, c2⟩ := box_cells hc hup3
  go_wp2_with (at_builtin; go_must (refine wpList_append_upon _ rfl (.tmp 30) (.tmp 32) 22 9 rfl hc' i0 (.int .u8 0) 1 Try.underlying22 hi hz0 hz1 hz2 rfl rfl hup3 (.string s) _ _ rfl (Src.ofString _ Try.underlying9 _) (by unfold maxLen; omega) (by omega) ?_))
  intro v4 w4 hup4
  go_wp2
  go_ret
  refine ⟨_, _, _, _, rfl, Upon.unalloc hup4, ?_⟩
  simp [byteCells, cellsOf]

set_option maxHeartbeats 1000000 in
theorem appendPlain_great_true (s : ByteArray) (n : Nat) (hs : s.toList.isEmpty = false) (hl : s.size ≤ 65536) (hn0 : 0 < n) (hns : s.size ≤ n) (hn : n ≤ 65536) (cap : Nat) (ao : Option Addr) (b off : Nat) (w : World) (hc : Came w 1 ao b off 0 cap []) :
    Calls Try.prog 40 #[.agg #[.bool true, .string s, .int .i64 (n : Int)], .slice ao 0 cap] w fun e w' => ∃ v r m ks, e = .returned v ∧ Upon w 5 1 ao b off 0 cap [] w' v m ks r ∧ ks = cellsOf (45 :: (s.data.toList ++ List.replicate (n - s.size) 48)) := by
  obtain ⟨i0, hi, hz0, hz1, hz2⟩ := info_parts Try.info5
  have hc' := Came.alloc hc (.cells #[.bool true, .string s, .int .i64 (n : Int)] 49)
  have hst := Upon.start (e := 5) hc'
  go_enter Try.func40, Try.ntmps40
  go_wp2_with (at_builtin; go_must (refine wpList_append_upon _ rfl (.tmp 14) (.tmp 15) 22 22 rfl hc' i0 (.int .u8 0) 1 Try.underlying22 hi hz0 hz1 hz2 rfl rfl (Upon.alloc hst hc' _) (.slice (some ⟨w.heap.size + 1, 0, none⟩) 1 1) 1 [.int .u8 45] rfl (src_one' _ _ (by simp)) (by unfold maxLen; omega) (by omega) ?_))
  intro v1 w1 hup1
  obtain ⟨c0, c1, c2⟩ := box_cells hc hup1
  go_wp2_with (at_builtin; go_must (refine wpList_append_upon _ rfl (.tmp 38) (.tmp 40) 22 9 rfl hc' i0 (.int .u8 0) 1 Try.underlying22 hi hz0 hz1 hz2 rfl rfl hup1 (.string s) _ _ rfl (Src.ofString _ Try.underlying9 _) (by unfold maxLen; omega) (by omega) ?_))
  intro v2 w2 hup2
  clear c0 c1 c2
  obtain ⟨c0, c1, c2⟩ := box_cells hc hup2
  go_wp2_with fail
  rw [show (n : Int) - (s.size : Int) = ((n - s.size : Nat) : Int) from by omega]
  refine (zeros_any _ _ _ _ _ _ _ hc' (n - s.size) _ _ _ _ _ hup2 (by omega)).mono ?_
  rintro e w3 ⟨v3, r3, rfl, hup3⟩
  go_wp2
  go_ret
  refine ⟨_, _, _, _, rfl, Upon.unalloc hup3, ?_⟩
  simp [byteCells, cellsOf]

set_option maxHeartbeats 1000000 in
theorem appendPlain_mid_true (s : ByteArray) (n : Nat) (hs : s.toList.isEmpty = false) (hl : s.size ≤ 65536) (hn0 : 0 < n) (hns : n < s.size) (cap : Nat) (ao : Option Addr) (b off : Nat) (w : World) (hc : Came w 1 ao b off 0 cap []) :
    Calls Try.prog 40 #[.agg #[.bool true, .string s, .int .i64 (n : Int)], .slice ao 0 cap] w fun e w' => ∃ v r m ks, e = .returned v ∧ Upon w 5 1 ao b off 0 cap [] w' v m ks r ∧ ks = cellsOf (45 :: (s.data.toList.take n ++ (46 :: s.data.toList.drop n))) := by
  obtain ⟨i0, hi, hz0, hz1, hz2⟩ := info_parts Try.info5
  have hc' := Came.alloc hc (.cells #[.bool true, .string s, .int .i64 (n : Int)] 49)
  have hst := Upon.start (e := 5) hc'
  go_enter Try.func40, Try.ntmps40
  go_wp2_with (at_builtin; go_must (refine wpList_append_upon _ rfl (.tmp 14) (.tmp 15) 22 22 rfl hc' i0 (.int .u8 0) 1 Try.underlying22 hi hz0 hz1 hz2 rfl rfl (Upon.alloc hst hc' _) (.slice (some ⟨w.heap.size + 1, 0, none⟩) 1 1) 1 [.int .u8 45] rfl (src_one' _ _ (by simp)) (by unfold maxLen; omega) (by omega) ?_))
  intro v1 w1 hup1
  obtain ⟨c0, c1, c2⟩ := box_cells hc hup1
  have hsz : (s.extract 0 n).size ≤ 65536 := by rw [ByteArray.size_extract]; omega
  have hsz2 : (s.extract n s.size).size ≤ 65536 := by rw [ByteArray.size_extract]; omega
  go_wp2_with (at_builtin; go_must (refine wpList_append_upon _ rfl (.tmp 48) (.tmp 53) 22 9 rfl hc' i0 (.int .u8 0) 1 Try.underlying22 hi hz0 hz1 hz2 rfl rfl hup1 (.string (s.extract 0 n)) _ _ rfl (Src.ofString _ Try.underlying9 _) (by unfold maxLen; omega) (by omega) ?_))
  intro v2 w2 hup2
  clear c0 c1 c2
  obtain ⟨c0, c1, c2⟩ := box_cells hc hup2
  go_wp2_with (at_builtin; go_must (refine wpList_append_upon _ rfl (.tmp 55) (.tmp 56) 22 22 rfl hc' i0 (.int .u8 0) 1 Try.underlying22 hi hz0 hz1 hz2 rfl rfl (Upon.alloc hup2 hc' _) (.slice (some ⟨w2.heap.size, 0, none⟩) 1 1) 1 [.int .u8 46] rfl (src_one' _ _ rfl) (by unfold maxLen; omega) (by omega) ?_))
  intro v3 w3 hup3
  clear c0 c1 c2
  obtain ⟨c0, c1, c2⟩ := box_cells hc hup3
  go_wp2_with (at_builtin; go_must (refine wpList_append_upon _ rfl (.tmp 58) (.tmp 63) 22 9 rfl hc' i0 (.int .u8 0) 1 Try.underlying22 hi hz0 hz1 hz2 rfl rfl hup3 (.string (s.extract n s.size)) _ _ rfl (Src.ofString _ Try.underlying9 _) (by unfold maxLen; omega) (by omega) ?_))
  intro v4 w4 hup4
  go_wp2
  go_ret
  refine ⟨_, _, _, _, rfl, Upon.unalloc hup4, ?_⟩
  simp only [byteCells_cellsOf, ext_head, ext_tail]
  simp [cellsOf]

set_option maxHeartbeats 1000000 in
theorem appendPlain_small_false (s : ByteArray) (n : Nat) (hs : s.toList.isEmpty = false) (hl : s.size ≤ 65536) (hn : n ≤ 65536) (cap : Nat) (ao : Option Addr) (b off : Nat) (w : World) (hc : Came w 1 ao b off 0 cap []) :
    Calls Try.prog 40 #[.agg #[.bool false, .string s, .int .i64 (-(n : Int))], .slice ao 0 cap] w fun e w' => ∃ v r m ks, e = .returned v ∧ Upon w 5 1 ao b off 0 cap [] w' v m ks r ∧ ks = cellsOf (([48, 46] ++ (List.replicate n 48 ++ s.data.toList))) := by
  obtain ⟨i0, hi, hz0, hz1, hz2⟩ := info_parts Try.info5
  have hc' := Came.alloc hc (.cells #[.bool false, .string s, .int .i64 (-(n : Int))] 49)
  have hst := Upon.start (e := 5) hc'
  go_enter Try.func40, Try.ntmps40
  go_wp2_with (at_builtin; go_must (refine wpList_append_upon _ rfl (.tmp 23) (.const (.string ⟨#[48, 46]⟩)) 22 9 rfl hc' i0 (.int .u8 0) 1 Try.underlying22 hi hz0 hz1 hz2 rfl rfl hst (.string ⟨#[48, 46]⟩) _ _ rfl (Src.ofString _ Try.underlying9 _) (by unfold maxLen; decide) (by decide) ?_))
  intro v2 w2 hup2
  obtain ⟨c0, c1, c2⟩ := box_cells hc hup2
  have hm : (⟨#[48, 46]⟩ : ByteArray).size = 2 := rfl
  go_wp2_with fail
  refine (zeros_any _ _ _ _ _ _ _ hc' n _ _ _ _ _ hup2 (by omega)).mono ?_
  rintro e w3 ⟨v3, r3, rfl, hup3⟩
  clear c0 c1 c2
  obtain ⟨c0, c1, c2⟩ := box_cells hc hup3
  go_wp2_with (at_builtin; go_must (refine wpList_append_upon _ rfl (.tmp 30) (.tmp 32) 22 9 rfl hc' i0 (.int .u8 0) 1 Try.underlying22 hi hz0 hz1 hz2 rfl rfl hup3 (.string s) _ _ rfl (Src.ofString _ Try.underlying9 _) (by unfold maxLen; omega) (by omega) ?_))
  intro v4 w4 hup4
  go_wp2
  go_ret
  refine ⟨_, _, _, _, rfl, Upon.unalloc hup4, ?_⟩
  simp [byteCells, cellsOf]

set_option maxHeartbeats 1000000 in
theorem appendPlain_great_false (s : ByteArray) (n : Nat) (hs : s.toList.isEmpty = false) (hl : s.size ≤ 65536) (hn0 : 0 < n) (hns : s.size ≤ n) (hn : n ≤ 65536) (cap : Nat) (ao : Option Addr) (b off : Nat) (w : World) (hc : Came w 1 ao b off 0 cap []) :
    Calls Try.prog 40 #[.agg #[.bool false, .string s, .int .i64 (n : Int)], .slice ao 0 cap] w fun e w' => ∃ v r m ks, e = .returned v ∧ Upon w 5 1 ao b off 0 cap [] w' v m ks r ∧ ks = cellsOf ((s.data.toList ++ List.replicate (n - s.size) 48)) := by
  obtain ⟨i0, hi, hz0, hz1, hz2⟩ := info_parts Try.info5
  have hc' := Came.alloc hc (.cells #[.bool false, .string s, .int .i64 (n : Int)] 49)
  have hst := Upon.start (e := 5) hc'
  go_enter Try.func40, Try.ntmps40
  go_wp2_with (at_builtin; go_must (refine wpList_append_upon _ rfl (.tmp 38) (.tmp 40) 22 9 rfl hc' i0 (.int .u8 0) 1 Try.underlying22 hi hz0 hz1 hz2 rfl rfl hst (.string s) _ _ rfl (Src.ofString _ Try.underlying9 _) (by unfold maxLen; omega) (by omega) ?_))
  intro v2 w2 hup2
  obtain ⟨c0, c1, c2⟩ := box_cells hc hup2
  go_wp2_with fail
  rw [show (n : Int) - (s.size : Int) = ((n - s.size : Nat) : Int) from by omega]
  refine (zeros_any _ _ _ _ _ _ _ hc' (n - s.size) _ _ _ _ _ hup2 (by omega)).mono ?_
  rintro e w3 ⟨v3, r3, rfl, hup3⟩
  go_wp2
  go_ret
  refine ⟨_, _, _, _, rfl, Upon.unalloc hup3, ?_⟩
  simp [byteCells, cellsOf]

set_option maxHeartbeats 1000000 in
theorem appendPlain_mid_false (s : ByteArray) (n : Nat) (hs : s.toList.isEmpty = false) (hl : s.size ≤ 65536) (hn0 : 0 < n) (hns : n < s.size) (cap : Nat) (ao : Option Addr) (b off : Nat) (w : World) (hc : Came w 1 ao b off 0 cap []) :
    Calls Try.prog 40 #[.agg #[.bool false, .string s, .int .i64 (n : Int)], .slice ao 0 cap] w fun e w' => ∃ v r m ks, e = .returned v ∧ Upon w 5 1 ao b off 0 cap [] w' v m ks r ∧ ks = cellsOf ((s.data.toList.take n ++ (46 :: s.data.toList.drop n))) := by
  obtain ⟨i0, hi, hz0, hz1, hz2⟩ := info_parts Try.info5
  have hc' := Came.alloc hc (.cells #[.bool false, .string s, .int .i64 (n : Int)] 49)
  have hst := Upon.start (e := 5) hc'
  go_enter Try.func40, Try.ntmps40
  have hsz : (s.extract 0 n).size ≤ 65536 := by rw [ByteArray.size_extract]; omega
  have hsz2 : (s.extract n s.size).size ≤ 65536 := by rw [ByteArray.size_extract]; omega
  go_wp2_with (at_builtin; go_must (refine wpList_append_upon _ rfl (.tmp 48) (.tmp 53) 22 9 rfl hc' i0 (.int .u8 0) 1 Try.underlying22 hi hz0 hz1 hz2 rfl rfl hst (.string (s.extract 0 n)) _ _ rfl (Src.ofString _ Try.underlying9 _) (by unfold maxLen; omega) (by omega) ?_))
  intro v2 w2 hup2
  obtain ⟨c0, c1, c2⟩ := box_cells hc hup2
  go_wp2_with (at_builtin; go_must (refine wpList_append_upon _ rfl (.tmp 55) (.tmp 56) 22 22 rfl hc' i0 (.int .u8 0) 1 Try.underlying22 hi hz0 hz1 hz2 rfl rfl (Upon.alloc hup2 hc' _) (.slice (some ⟨w2.heap.size, 0, none⟩) 1 1) 1 [.int .u8 46] rfl (src_one' _ _ rfl) (by unfold maxLen; omega) (by omega) ?_))
  intro v3 w3 hup3
  clear c0 c1 c2
  obtain ⟨c0, c1, c2⟩ := box_cells hc hup3
  go_wp2_with (at_builtin; go_must (refine wpList_append_upon _ rfl (.tmp 58) (.tmp 63) 22 9 rfl hc' i0 (.int .u8 0) 1 Try.underlying22 hi hz0 hz1 hz2 rfl rfl hup3 (.string (s.extract n s.size)) _ _ rfl (Src.ofString _ Try.underlying9 _) (by unfold maxLen; omega) (by omega) ?_))
  intro v4 w4 hup4
  go_wp2
  go_ret
  refine ⟨_, _, _, _, rfl, Upon.unalloc hup4, ?_⟩
  simp only [byteCells_cellsOf, ext_head, ext_tail]
  simp [cellsOf]

end Go.Proofs.Qxb6001720a
