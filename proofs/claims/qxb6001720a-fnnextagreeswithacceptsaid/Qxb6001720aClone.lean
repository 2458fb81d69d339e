import Derived.Test.Qxb6001720aRows
import Derived.WalkKit
import Derived.ProofKit
import Derived.WalkSpells
import Derived.WalkLawsBesides
import Derived.Test.Qxb6001720aMem
namespace Go.Proofs.Qxb6001720a
open Go.ChangeShapes Go.WideShapes Go.ChangeAt Go.RowKit

theorem Try.info3 : (Try.prog.info? 3).map (fun i => (i.zero, i.size, i.bytes)) = some (some (.int .i64 0), 1, 8) := by kernel_rfl

set_option maxHeartbeats 400000 in
theorem cloneInts_any (b off len cap : Nat) (zs : List Int) (w : World) (hl : len ≤ 1048576) (hb : b < w.heap.size) (hcell : ∀ j, j < len → w.cell? ⟨b, off + j, none⟩ = some (.int .i64 (zs.getD j 0))) :
    Calls Try.prog 27 #[.slice (some ⟨b, off, none⟩) len cap] w fun e w' => e = .returned (.slice (some ⟨w.heap.size, 0, none⟩) len len) ∧ Below w.heap.size w w' ∧ w'.heap.size = w.heap.size + 1 ∧
      ∃ cs, cs.size = len ∧ Row w' w.heap.size cs 3 ∧ ∀ j, j < len → cs[j]? = some (.int .i64 (zs.getD j 0)) := by
  have hnil := fun wx => Lib.run_eql_slice_nil (P := Try.prog) wx 39 3 (some ⟨b, off, none⟩) len cap 0 0 Try.underlying39
  have hmk := fun wx => run_make_row' (P := Try.prog) 39 3 (.int .i64 0) 8 Try.underlying39 Try.info3 rfl .i64 .i64 len (by omega) (by omega) wx
  have HC : Hid (∀ j, j < len → w.cell? ⟨b, off + j, none⟩ = some (.int .i64 (zs.getD j 0))) := hcell
  clear hcell
  go_enter Try.func27, Try.ntmps27
  go_wp2
  go_loopw [4] (fun i wr => ∃ k : Nat, k ≤ len ∧ i = .int .i64 k ∧ Below w.heap.size w wr ∧ wr.heap.size = w.heap.size + 1 ∧ ∃ cs, cs.size = len ∧ Row wr w.heap.size cs 3 ∧ ∀ j, j < k → cs[j]? = some (.int .i64 (zs.getD j 0))) (fun i _ => len - (intOf i).toNat)
  case atStart => exact ⟨0, Nat.zero_le _, rfl, (Below.refl _ _).alloc (Nat.le_refl _) _, by simp, _, size_madeCells _ _, Row.new _ _ _, fun j h => absurd h (Nat.not_lt_zero _)⟩
  case round =>
    obtain ⟨k, hk, rfl, hbel, hsz, cs, hcs, hrow, hdone⟩ := hrel
    by_cases hlt : k < len
    · have hsrc : wr.cell? ⟨b, off + k, none⟩ = some (.int .i64 (zs[k]?.getD 0)) := by
        rw [hbel.cell (p := ⟨b, off + k, none⟩) hb]; simpa using HC.out k hlt
      obtain ⟨old, hold⟩ : ∃ old, cs[k]? = some old := ⟨cs[k], by simp [hcs, hlt]⟩
      have hdst : wr.cell? ⟨w.heap.size, k, none⟩ = some old := by rw [hrow.cell]; exact hold
      have hfr := hrow.free k
      have HR : Hid (Row wr w.heap.size cs 3) := hrow
      have HD : Hid (∀ j, j < k → cs[j]? = some (.int .i64 (zs.getD j 0))) := hdone
      have HZ : Hid (wr.heap.size = w.heap.size + 1) := hsz
      clear hrow hdone hold hsz
      go_wp2
      go_roundw
      case rel =>
        refine ⟨k + 1, by omega, by go_num, hbel.setCell (Nat.le_refl _) _, by rw [size_setCell]; exact HZ.out, _, by simpa using hcs, HR.out.set _ _, fun j hj => ?_⟩
        by_cases hjk : j = k
        · subst hjk; simp [hcs, hlt]
        · rw [Array.getElem?_setIfInBounds_ne (by omega)]; exact HD.out j (by omega)
      case measure => simp [intOf]; omega
    · obtain rfl : k = len := by omega
      go_wp2
      go_ret
      exact ⟨rfl, hbel, hsz, cs, hcs, hrow, hdone⟩
end Go.Proofs.Qxb6001720a
