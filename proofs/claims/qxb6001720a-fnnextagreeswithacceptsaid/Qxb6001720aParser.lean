import Derived.Test.Qxb6001720aClone
namespace Go.Proofs.Qxb6001720a
open Go.ChangeShapes Go.WideShapes Go.ChangeAt Go.RowKit

theorem Try.info54 : (Try.prog.info? 54).map (fun i => (i.zero, i.size, i.bytes)) = some (some (.agg #[.int .i64 0, .string ⟨#[]⟩, .int .i64 0]), 3, 32) := by kernel_rfl

theorem run_make_toks (n : Nat) (hn : n ≤ 1048576) (w : World) :
    (Instr.makeSlice 51 (.int .i64 (n : Int)) (.int .i64 (n : Int))).run Try.prog w = .ok (.slice (some ⟨w.heap.size, 0, none⟩) n n) (w.alloc (.cells (madeCells #[.int .i64 0, .string ⟨#[]⟩, .int .i64 0] (n * 3)) 54)) := by
  obtain ⟨i, hi, hzz⟩ := Option.map_eq_some_iff.1 Try.info54
  simp only [Prod.mk.injEq] at hzz
  obtain ⟨hz, hs, hb⟩ := hzz
  have hr := run_make (P := Try.prog) w 51 54 i _ Try.underlying51 hi hz .i64 .i64 n n (by omega) (Int.le_refl _) (by rw [hb]; omega) (by omega)
  simp only [Int.toNat_natCast, hs] at hr
  exact hr

/-- the first k tokens: kinds zs, no text, position j at token j -/
def Toks (cs : Array Value) (zs : List Int) (k : Nat) : Prop :=
  ∀ j, j < k → cs[j * 3]? = some (.int .i64 (zs.getD j 0)) ∧ cs[j * 3 + 1]? = some (.string ⟨#[]⟩) ∧ cs[j * 3 + 2]? = some (.int .i64 j)

theorem Toks.zero (cs : Array Value) (zs : List Int) : Toks cs zs 0 := fun _ h => absurd h (Nat.not_lt_zero _)

theorem Toks.step {cs : Array Value} {zs : List Int} {k len : Nat} (h : Toks cs zs k) (hs : cs.size = len * 3) (hk : k < len) :
    Toks (((cs.setIfInBounds (k * 3) (.int .i64 (zs[k]?.getD 0))).setIfInBounds (k * 3 + 1) (.string ⟨#[]⟩)).setIfInBounds (k * 3 + 2) (.int .i64 k)) zs (k + 1) := by
  intro j hj
  by_cases hjk : j = k
  · subst hjk
    refine ⟨?_, ?_, ?_⟩
    · rw [Array.getElem?_setIfInBounds_ne (by omega), Array.getElem?_setIfInBounds_ne (by omega), Array.getElem?_setIfInBounds_self_of_lt (by omega)]; simp
    · rw [Array.getElem?_setIfInBounds_ne (by omega), Array.getElem?_setIfInBounds_self_of_lt (by simp; omega)]
    · rw [Array.getElem?_setIfInBounds_self_of_lt (by simp; omega)]
  · obtain ⟨h0, h1, h2⟩ := h j (by omega)
    refine ⟨?_, ?_, ?_⟩ <;> rw [Array.getElem?_setIfInBounds_ne (by omega), Array.getElem?_setIfInBounds_ne (by omega), Array.getElem?_setIfInBounds_ne (by omega)] <;> assumption

set_option maxHeartbeats 400000 in
theorem makeParser_any (b off len cap : Nat) (start : Int) (zs : List Int) (w : World) (hl : len ≤ 1048576) (hb : b < w.heap.size) (hcell : ∀ j, j < len → w.cell? ⟨b, off + j, none⟩ = some (.int .i64 (zs.getD j 0))) :
    Calls Try.prog 28 #[.slice (some ⟨b, off, none⟩) len cap, .int .i64 start] w fun e w' => e = .returned (.pointer (some ⟨w.heap.size + 1, 0, none⟩)) ∧ Below w.heap.size w w' ∧ w'.heap.size = w.heap.size + 2 ∧
      (∃ cs, cs.size = len * 3 ∧ Row w' w.heap.size cs 54 ∧ Toks cs zs len) ∧
      Row w' (w.heap.size + 1) #[.string ⟨#[]⟩, .string ⟨#[]⟩, .slice (some ⟨w.heap.size, 0, none⟩) len len, .int .i64 start, .pointer none] 57 := by
  have hmk := run_make_toks len hl
  have HC : Hid (∀ j, j < len → w.cell? ⟨b, off + j, none⟩ = some (.int .i64 (zs.getD j 0))) := hcell
  clear hcell
  go_enter Try.func28, Try.ntmps28
  go_wp2
  go_loopw [6] (fun i wr => ∃ k : Nat, k ≤ len ∧ i = .int .i64 k ∧ Below w.heap.size w wr ∧ wr.heap.size = w.heap.size + 1 ∧ ∃ cs, cs.size = len * 3 ∧ Row wr w.heap.size cs 54 ∧ Toks cs zs k) (fun i _ => len - (intOf i).toNat)
  case atStart => exact ⟨0, Nat.zero_le _, rfl, (Below.refl _ _).alloc (Nat.le_refl _) _, by simp, _, size_madeCells _ _, Row.new _ _ _, Toks.zero _ _⟩
  case round =>
    obtain ⟨k, hk, rfl, hbel, hsz, cs, hcs, hrow, hdone⟩ := hrel
    by_cases hlt : k < len
    · have hsrc : wr.cell? ⟨b, off + k, none⟩ = some (.int .i64 (zs[k]?.getD 0)) := by
        rw [hbel.cell (p := ⟨b, off + k, none⟩) hb]; simpa using HC.out k hlt
      obtain ⟨o0, ho0⟩ : ∃ old, cs[k * 3]? = some old := ⟨cs[k * 3]'(by omega), by rw [Array.getElem?_eq_getElem]⟩
      obtain ⟨o1, ho1⟩ : ∃ old, cs[k * 3 + 1]? = some old := ⟨cs[k * 3 + 1]'(by omega), by rw [Array.getElem?_eq_getElem]⟩
      obtain ⟨o2, ho2⟩ : ∃ old, cs[k * 3 + 2]? = some old := ⟨cs[k * 3 + 2]'(by omega), by rw [Array.getElem?_eq_getElem]⟩
      have hd0 : wr.cell? ⟨w.heap.size, k * 3, none⟩ = some o0 := by rw [hrow.cell]; exact ho0
      have hd1 : wr.cell? ⟨w.heap.size, k * 3 + 1, none⟩ = some o1 := by rw [hrow.cell]; exact ho1
      have hd2 : wr.cell? ⟨w.heap.size, k * 3 + 2, none⟩ = some o2 := by rw [hrow.cell]; exact ho2
      have hf0 := hrow.free (k * 3)
      have hf1 := hrow.free (k * 3 + 1)
      have hf2 := hrow.free (k * 3 + 2)
      have HR : Hid (Row wr w.heap.size cs 54) := hrow
      have HZ : Hid (wr.heap.size = w.heap.size + 1) := hsz
      have HD := hdone
      clear hrow hdone ho0 ho1 ho2 hsz
      go_wp2
      go_roundw
      case rel => exact ⟨k + 1, by omega, by go_num, ((hbel.setCell (Nat.le_refl _) _).setCell (Nat.le_refl _) _).setCell (Nat.le_refl _) _, by rw [size_setCell, size_setCell, size_setCell]; exact HZ.out, _, by simpa using hcs, ((HR.out.set _ _).set _ _).set _ _, HD.step hcs hlt⟩
      case measure => simp [intOf]; omega
    · obtain rfl : k = len := by omega
      go_wp2
      go_ret
      refine ⟨rfl, hbel.alloc (by omega) _, by simp [hsz], ⟨cs, hcs, hrow.alloc _, hdone⟩, ?_⟩
      rw [← hsz]; exact Row.new _ _ _
end Go.Proofs.Qxb6001720a
