import Derived.Test.Qxb6001720aParser
import Derived.BigRegion
import Derived.BigQuiet
import Derived.Deep.QuietTactic
namespace Go.Proofs.Qxb6001720a
open Go.ChangeShapes Go.WideShapes Go.ChangeAt Go.RowKit

theorem grown_refl (w : World) (r : Option Nat) : w.grownBy w r := ⟨rfl, rfl, rfl, Nat.le_refl _, fun _ _ _ => rfl⟩
theorem grown_alloc {w w' : World} {r : Option Nat} (h : w.grownBy w' r) (o : Obj) : w.grownBy (w'.alloc o) r :=
  ⟨h.os, h.tape, h.output, Nat.le_trans h.size (by simp), fun k hk hr => by rw [Below.heap_alloc _ _ _ (Nat.lt_of_lt_of_le hk h.size)]; exact h.block k hk hr⟩
theorem grown_drew {w w' : World} {r : Option Nat} (h : w.grownBy w' r) : w.grownBy w'.drew r := ⟨h.os, h.tape, h.output, h.size, h.block⟩
theorem grown_drewN {w w' : World} {r : Option Nat} (h : w.grownBy w' r) (n : Nat) : w.grownBy (w'.drewN n) r := ⟨h.os, h.tape, h.output, h.size, h.block⟩
theorem Row.drewN {w : World} {B : Nat} {cs : Array Value} {t : TypeId} (h : Row w B cs t) (n : Nat) : Row (w.drewN n) B cs t := h
theorem grown_set {w w' : World} {r : Option Nat} (h : w.grownBy w' r) {a : Addr} (ha : w.heap.size ≤ a.block ∨ r = some a.block) (v : Value) : w.grownBy (w'.setCell a v) r :=
  ⟨h.os, h.tape, h.output, by rw [size_setCell]; exact h.size, fun k hk hr => by
    rw [Below.heap_setCell _ _ _ _ (fun e => by
      rcases ha with ha | ha
      · omega
      · exact hr (by rw [ha, e]))]
    exact h.block k hk hr⟩
theorem grown_trans {a b c : World} {r : Option Nat} (h : a.grownBy b r) (k : b.grownBy c r) : a.grownBy c r :=
  ⟨k.os.trans h.os, k.tape.trans h.tape, k.output.trans h.output, Nat.le_trans h.size k.size, fun i hi hr => (k.block i (Nat.lt_of_lt_of_le hi h.size) hr).trans (h.block i hi hr)⟩
theorem Row.grown {w w' : World} {B : Nat} {cs : Array Value} {t : TypeId} {r : Option Nat} (h : Row w B cs t) (hg : w.grownBy w' r) (hB : some B ≠ r) : Row w' B cs t := by
  have := h.lt
  unfold Row at h ⊢
  rw [hg.block B this hB]; exact h

set_option maxHeartbeats 1000000 in
theorem next_stay (P T len i : Nat) (w : World) (hP : P < w.heap.size) (hT : T < w.heap.size) (hi : i < len) (_hl : len ≤ 1048576)
    (p2 : w.cell? ⟨P, 2, none⟩ = some (.slice (some ⟨T, 0, none⟩) len len)) (p3 : w.cell? ⟨P, 3, none⟩ = some (.int .i64 i))
    (t0 : w.cell? ⟨T, i * 3, none⟩ = some (.int .i64 0)) (t1 : w.cell? ⟨T, i * 3 + 1, none⟩ = some (.string ⟨#[]⟩)) (t2 : w.cell? ⟨T, i * 3 + 2, none⟩ = some (.int .i64 i)) :
    Calls Try.prog 37 #[.pointer (some ⟨P, 0, none⟩)] w fun e w' => e = .returned (.agg #[.int .i64 0, .string ⟨#[]⟩, .int .i64 i]) ∧ w.grownBy w' none := by
  go_enter Try.func37, Try.ntmps37
  go_wp2
  go_region
  go_wp2
  refine bodyPost_ret (v := .agg #[.int .i64 0, .string ⟨#[]⟩, .int .i64 i]) (by simp [results, Try.results37, go_sem]) rfl ⟨rfl, ?_⟩
  exact grown_drew (grown_alloc (grown_alloc (grown_refl _ _) _) _)

set_option maxHeartbeats 1000000 in
theorem next_move (P T len i : Nat) (z : Int) (w : World) (hP : P < w.heap.size) (hT : T < w.heap.size) (hi : i < len) (hl : len ≤ 1048576) (hz : (z != 0) = true)
    (p2 : w.cell? ⟨P, 2, none⟩ = some (.slice (some ⟨T, 0, none⟩) len len)) (p3 : w.cell? ⟨P, 3, none⟩ = some (.int .i64 i)) (f3 : w.frozen? ⟨P, 3, none⟩ = false)
    (t0 : w.cell? ⟨T, i * 3, none⟩ = some (.int .i64 z)) (t1 : w.cell? ⟨T, i * 3 + 1, none⟩ = some (.string ⟨#[]⟩)) (t2 : w.cell? ⟨T, i * 3 + 2, none⟩ = some (.int .i64 i)) :
    Calls Try.prog 37 #[.pointer (some ⟨P, 0, none⟩)] w fun e w' => e = .returned (.agg #[.int .i64 z, .string ⟨#[]⟩, .int .i64 i]) ∧ w.grownBy w' (some P) ∧ ∀ cs t, Row w P cs t → Row w' P (cs.setIfInBounds 3 (.int .i64 ((i : Int) + 1))) t := by
  go_enter Try.func37, Try.ntmps37
  go_wp2
  go_region
  go_wp2
  refine bodyPost_ret (v := .agg #[.int .i64 z, .string ⟨#[]⟩, .int .i64 i]) (by simp [results, Try.results37, go_sem]) rfl ⟨rfl, ?_, ?_⟩
  · exact grown_drew (grown_alloc (grown_alloc (grown_set (grown_refl _ _) (.inr rfl) _) _) _)
  · intro cs t h
    exact (((h.set 3 _).alloc _).alloc _).drew

/-- the parser's five cells: no text, the tokens at block T, the position i -/
def PRow (T len i : Nat) : Array Value := #[.string ⟨#[]⟩, .string ⟨#[]⟩, .slice (some ⟨T, 0, none⟩) len len, .int .i64 i, .pointer none]

/-- where next leaves the position -/
def nxt (zs : List Int) (i : Nat) : Nat := if zs.getD i 0 = 0 then i else i + 1

theorem PRow_next (T len i : Nat) : (PRow T len i).setIfInBounds 3 (.int .i64 ((i : Int) + 1)) = PRow T len (i + 1) := by
  simp [PRow]

theorem next_any (P T len i : Nat) (zs : List Int) (cs : Array Value) (w : World) (hi : i < len) (hl : len ≤ 1048576) (hp : Row w P (PRow T len i) 57) (ht : Row w T cs 54) (hk : Toks cs zs len) :
    Calls Try.prog 37 #[.pointer (some ⟨P, 0, none⟩)] w fun e w' => e = .returned (.agg #[.int .i64 (zs.getD i 0), .string ⟨#[]⟩, .int .i64 i]) ∧ w.grownBy w' (some P) ∧ Row w' P (PRow T len (nxt zs i)) 57 := by
  obtain ⟨k0, k1, k2⟩ := hk i hi
  have p2 : w.cell? ⟨P, 2, none⟩ = some (.slice (some ⟨T, 0, none⟩) len len) := by rw [hp.cell]; rfl
  have p3 : w.cell? ⟨P, 3, none⟩ = some (.int .i64 i) := by rw [hp.cell]; rfl
  have t0 : w.cell? ⟨T, i * 3, none⟩ = some (.int .i64 (zs.getD i 0)) := by rw [ht.cell]; exact k0
  have t1 : w.cell? ⟨T, i * 3 + 1, none⟩ = some (.string ⟨#[]⟩) := by rw [ht.cell]; exact k1
  have t2 : w.cell? ⟨T, i * 3 + 2, none⟩ = some (.int .i64 i) := by rw [ht.cell]; exact k2
  by_cases hz : zs.getD i 0 = 0
  · have hn : nxt zs i = i := by unfold nxt; rw [if_pos hz]
    rw [hz] at t0 ⊢
    rw [hn]
    refine (next_stay P T len i w hp.lt ht.lt hi hl p2 p3 t0 t1 t2).mono ?_
    rintro e w' ⟨rfl, hg⟩
    exact ⟨rfl, ⟨hg.os, hg.tape, hg.output, hg.size, fun k hk _ => hg.block k hk (by simp)⟩, hp.grown hg (by simp)⟩
  · have hn : nxt zs i = i + 1 := by unfold nxt; rw [if_neg hz]
    rw [hn]
    refine (next_move P T len i _ w hp.lt ht.lt hi hl (by simpa using hz) p2 p3 (hp.free 3) t0 t1 t2).mono ?_
    rintro e w' ⟨rfl, hg, hr⟩
    have := hr _ _ hp
    rw [PRow_next] at this
    exact ⟨rfl, hg, this⟩

set_option maxHeartbeats 1000000 in
theorem zzNext_any (P T len i : Nat) (zs : List Int) (cs : Array Value) (w : World) (hi : i < len) (hl : len ≤ 1048576) (hp : Row w P (PRow T len i) 57) (ht : Row w T cs 54) (hk : Toks cs zs len) :
    Calls Try.prog 29 #[.pointer (some ⟨P, 0, none⟩)] w fun e w' => e = .returned (.tuple #[.int .i64 (zs.getD i 0), .int .i64 i]) ∧ w.grownBy w' (some P) ∧ Row w' P (PRow T len (nxt zs i)) 57 := by
  go_enter Try.func29, Try.ntmps29
  go_wp2_with fail
  refine (next_any P T len i zs cs w hi hl hp ht hk).mono ?_
  rintro e w1 ⟨rfl, hg, hr⟩
  have HG : Hid (w.grownBy w1 (some P)) := hg
  have HR : Hid (Row w1 P (PRow T len (nxt zs i)) 57) := hr
  clear hg hr hp ht hk
  generalize hz : zs.getD i 0 = z
  have HZ : Hid (zs.getD i 0 = z) := hz
  clear hz
  go_wp2
  go_quiet (fail)
  go_wp2
  go_ret2
  refine ⟨?_, grown_drewN (grown_alloc HG.out _) _, (HR.out.alloc _).drewN _⟩
  rw [HZ.out]; rfl

theorem parserAt_any (P T len i : Nat) (w : World) (hp : Row w P (PRow T len i) 57) :
    Calls Try.prog 30 #[.pointer (some ⟨P, 0, none⟩)] w fun e w' => e = .returned (.int .i64 i) ∧ w' = w := by
  have p3 : w.cell? ⟨P, 3, none⟩ = some (.int .i64 i) := by rw [hp.cell]; rfl
  clear hp
  go_enter Try.func30, Try.ntmps30
  go_wp2
  go_ret
  exact ⟨rfl, rfl⟩
end Go.Proofs.Qxb6001720a
