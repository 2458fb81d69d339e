import Derived.Test.Qxb6603117aHex
namespace Go.Proofs.Qxb6603117a
open Go.ChangeShapes Go.WideShapes Go.ChangeAt Go.RowKit

/-- the bytes l lie in block g from offset o on -/
def Bs (w : World) (g o : Nat) (l : List UInt8) : Prop := ∀ j (hj : j < l.length), w.cell? ⟨g, o + j, none⟩ = some (.int .u8 (l[j].toNat : Int))

theorem Bs.below {w w' : World} {g o N : Nat} {l : List UInt8} (h : Bs w g o l) (hb : Below N w w') (hg : g < N) : Bs w' g o l := by
  intro j hj
  rw [hb.cell (p := ⟨g, o + j, none⟩) hg]; exact h j hj

theorem Try.info5b : (Try.prog.info? 5).map (fun i => (i.zero, i.size, i.bytes)) = some (some (.int .u8 0), 1, 1) := by kernel_rfl

/-- a slice of the call's own, or nil, that holds the bytes tl -/
def TailOk (w : World) (ta : Option Addr) (len lcap : Nat) (tl : List UInt8) : Prop :=
  tl.length = len ∧ (ta = none → lcap = 0) ∧ (len = 0 ∨ ∃ B, ta = some ⟨B, 0, none⟩ ∧ B < w.heap.size ∧ Bs w B 0 tl)

theorem TailOk.kept {w w' : World} {ta : Option Addr} {len lcap : Nat} {tl : List UInt8} (h : TailOk w ta len lcap tl) (hs : w.heap.size ≤ w'.heap.size) (hc : ∀ B j, B < w.heap.size → ta = some ⟨B, 0, none⟩ → 0 < len → w'.cell? ⟨B, j, none⟩ = w.cell? ⟨B, j, none⟩) : TailOk w' ta len lcap tl := by
  obtain ⟨hl, hn, h0 | ⟨B, rfl, hB, hb⟩⟩ := h
  · exact ⟨hl, hn, .inl h0⟩
  · refine ⟨hl, hn, .inr ⟨B, rfl, by omega, fun j hj => ?_⟩⟩
    rw [hc B (0 + j) hB rfl (by omega)]; exact hb j hj

theorem clone_nil (w : World) : Calls Try.prog 7 #[.slice none 0 0] w fun e w' => ∃ ta lcap, e = .returned (.slice ta 0 lcap) ∧ Below w.heap.size w w' ∧ TailOk w' ta 0 lcap [] := by
  have hnil := fun wx => Lib.run_eql_slice_nil (P := Try.prog) wx 22 5 none 0 0 0 0 Try.underlying22
  go_enter Try.func7, Try.ntmps7
  go_wp2
  go_ret
  exact ⟨none, 0, rfl, Below.refl _ _, rfl, fun _ => rfl, .inl rfl⟩

theorem clone_zero (x : Addr) (cap : Nat) (w : World) : Calls Try.prog 7 #[.slice (some x) 0 cap] w fun e w' => ∃ ta lcap, e = .returned (.slice ta 0 lcap) ∧ Below w.heap.size w w' ∧ TailOk w' ta 0 lcap [] := by
  have hnil := fun wx => Lib.run_eql_slice_nil (P := Try.prog) wx 22 5 (some x) 0 cap 0 0 Try.underlying22
  have hmk := fun wx => run_make_row' (P := Try.prog) 22 5 (.int .u8 0) 1 Try.underlying22 Try.info5b rfl .i64 .i64 0 (by omega) (by omega) wx
  rw [show ((0 : Nat) : Int) = 0 from rfl] at hmk
  go_enter Try.func7, Try.ntmps7
  go_wp2
  refine wp_loop_rounds 1 ?_
  rw [rounds_succ]
  go_wp2
  go_ret
  exact ⟨_, _, rfl, (Below.refl _ _).alloc (Nat.le_refl _) _, rfl, (fun h => by cases h), .inl rfl⟩

set_option maxHeartbeats 400000 in
theorem clone_some (b off len cap : Nat) (tl : List UInt8) (w : World) (hl : len ≤ 1048576) (htl : tl.length = len) (hb : b < w.heap.size) (hcell : Bs w b off tl) :
    Calls Try.prog 7 #[.slice (some ⟨b, off, none⟩) len cap] w fun e w' => ∃ ta lcap, e = .returned (.slice ta len lcap) ∧ Below w.heap.size w w' ∧ TailOk w' ta len lcap tl := by
  have hnil := fun wx => Lib.run_eql_slice_nil (P := Try.prog) wx 22 5 (some ⟨b, off, none⟩) len cap 0 0 Try.underlying22
  have hmk := fun wx => run_make_row' (P := Try.prog) 22 5 (.int .u8 0) 1 Try.underlying22 Try.info5b rfl .i64 .i64 len (by omega) (by omega) wx
  have HC : Hid (Bs w b off tl) := hcell
  have HL : Hid (tl.length = len) := htl
  clear hcell htl
  go_enter Try.func7, Try.ntmps7
  go_wp2
  go_loopw [4] (fun i wr => ∃ k : Nat, k ≤ len ∧ i = .int .i64 k ∧ Below w.heap.size w wr ∧ wr.heap.size = w.heap.size + 1 ∧ ∃ cs, cs.size = len ∧ Row wr w.heap.size cs 5 ∧ ∀ j (hj : j < tl.length), j < k → cs[j]? = some (.int .u8 (tl[j].toNat : Int))) (fun i _ => len - (intOf i).toNat)
  case atStart => exact ⟨0, Nat.zero_le _, rfl, (Below.refl _ _).alloc (Nat.le_refl _) _, by simp, _, size_madeCells _ _, Row.new _ _ _, fun j _ h => absurd h (Nat.not_lt_zero _)⟩
  case round =>
    obtain ⟨k, hk, rfl, hbel, hsz, cs, hcs, hrow, hdone⟩ := hrel
    by_cases hlt : k < len
    · have hkt : k < tl.length := by rw [HL.out]; exact hlt
      have hsrc : wr.cell? ⟨b, off + k, none⟩ = some (.int .u8 (tl[k].toNat : Int)) := by
        rw [hbel.cell (p := ⟨b, off + k, none⟩) hb]; exact HC.out k hkt
      obtain ⟨old, hold⟩ : ∃ old, cs[k]? = some old := ⟨cs[k], by simp [hcs, hlt]⟩
      have hdst : wr.cell? ⟨w.heap.size, k, none⟩ = some old := by rw [hrow.cell]; exact hold
      have hfr := hrow.free k
      have HR : Hid (Row wr w.heap.size cs 5) := hrow
      have HD : Hid (∀ j (hj : j < tl.length), j < k → cs[j]? = some (.int .u8 (tl[j].toNat : Int))) := hdone
      have HZ : Hid (wr.heap.size = w.heap.size + 1) := hsz
      clear hrow hdone hold hsz
      go_wp2
      go_roundw
      case rel =>
        refine ⟨k + 1, by omega, by go_num, hbel.setCell (Nat.le_refl _) _, by rw [size_setCell]; exact HZ.out, _, by simpa using hcs, HR.out.set _ _, fun j hj hjk => ?_⟩
        by_cases e : j = k
        · subst e; simp [hcs, hlt]
        · rw [Array.getElem?_setIfInBounds_ne (by omega)]; exact HD.out j hj (by omega)
      case measure => simp [intOf]; omega
    · obtain rfl : k = len := by omega
      go_wp2
      go_ret
      refine ⟨_, _, rfl, hbel, HL.out, (fun h => by cases h), .inr ⟨w.heap.size, rfl, hrow.lt, fun j hj => ?_⟩⟩
      rw [Nat.zero_add, hrow.cell]; exact hdone j hj (by rw [← HL.out]; exact hj)


theorem zzHexEscape_any (B n cap : Nat) (c d : Nat → Int) (w : World) (hn : 6 ≤ n) (hcap : n ≤ cap)
    (b0 : w.cell? ⟨B, 0, none⟩ = some (.int .u8 92)) (b1 : w.cell? ⟨B, 1, none⟩ = some (.int .u8 117))
    (bc : ∀ i, i < 4 → w.cell? ⟨B, 2 + i, none⟩ = some (.int .u8 (c i))) (hx : ∀ i, i < 4 → HexC (c i) (d i)) :
    Calls Try.prog 8 #[.slice (some ⟨B, 0, none⟩) n cap] w fun e w' => e = .returned (.tuple #[.int .i32 (hexVal d 4), .bool true]) ∧ w' = w := by
  go_enter Try.func8, Try.ntmps8
  go_wp2_with fail
  refine (hexEscape_any B n cap c d w hn hcap b0 b1 bc hx).mono ?_
  rintro e w' ⟨rfl, rfl⟩
  clear bc hx
  generalize hv : hexVal d 4 = v
  have HV : Hid (hexVal d 4 = v) := hv
  clear hv
  go_wp2
  go_ret2
  refine ⟨?_, rfl⟩
  rw [HV.out]; rfl
end Go.Proofs.Qxb6603117a
