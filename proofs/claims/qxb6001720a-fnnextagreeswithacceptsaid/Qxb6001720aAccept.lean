import Derived.Test.Qxb6001720aNext
namespace Go.Proofs.Qxb6001720a
open Go.ChangeShapes Go.WideShapes Go.ChangeAt Go.RowKit

set_option maxHeartbeats 1000000 in
theorem peek_cells (P T len i : Nat) (z : Int) (w : World) (hP : P < w.heap.size) (hT : T < w.heap.size) (hi : i < len)
    (p2 : w.cell? ⟨P, 2, none⟩ = some (.slice (some ⟨T, 0, none⟩) len len)) (p3 : w.cell? ⟨P, 3, none⟩ = some (.int .i64 i))
    (t0 : w.cell? ⟨T, i * 3, none⟩ = some (.int .i64 z)) (t1 : w.cell? ⟨T, i * 3 + 1, none⟩ = some (.string ⟨#[]⟩)) (t2 : w.cell? ⟨T, i * 3 + 2, none⟩ = some (.int .i64 i)) :
    Calls Try.prog 41 #[.pointer (some ⟨P, 0, none⟩)] w fun e w' => e = .returned (.agg #[.int .i64 z, .string ⟨#[]⟩, .int .i64 i]) ∧ w.grownBy w' none := by
  go_enter Try.func41, Try.ntmps41
  go_wp2
  go_region
  go_wp2
  refine bodyPost_ret (v := .agg #[.int .i64 z, .string ⟨#[]⟩, .int .i64 i]) (by simp [results, Try.results41, go_sem]) rfl ⟨rfl, ?_⟩
  exact grown_drew (grown_alloc (grown_refl _ _) _)

theorem peek_any (P T len i : Nat) (zs : List Int) (cs : Array Value) (w : World) (hi : i < len) (hp : Row w P (PRow T len i) 57) (ht : Row w T cs 54) (hk : Toks cs zs len) :
    Calls Try.prog 41 #[.pointer (some ⟨P, 0, none⟩)] w fun e w' => e = .returned (.agg #[.int .i64 (zs.getD i 0), .string ⟨#[]⟩, .int .i64 i]) ∧ w.grownBy w' none := by
  obtain ⟨k0, k1, k2⟩ := hk i hi
  exact peek_cells P T len i _ w hp.lt ht.lt hi (by rw [hp.cell]; rfl) (by rw [hp.cell]; rfl) (by rw [ht.cell]; exact k0) (by rw [ht.cell]; exact k1) (by rw [ht.cell]; exact k2)

theorem grown_weaken {w w' : World} (h : w.grownBy w' none) (r : Option Nat) : w.grownBy w' r := ⟨h.os, h.tape, h.output, h.size, fun k hk _ => h.block k hk (by simp)⟩

/-- the kind of a token that is no variable: peek().kind -/
theorem field_kind (z i : Int) (w : World) : (Instr.field 54 (.agg #[.int .i64 z, .string ⟨#[]⟩, .int .i64 i]) 0).run Try.prog w = .ok (.int .i64 z) w := by kernel_rfl

set_option maxHeartbeats 1000000 in
theorem accept_no (P T len i : Nat) (k : Int) (zs : List Int) (cs : Array Value) (w : World) (hi : i < len) (hp : Row w P (PRow T len i) 57) (ht : Row w T cs 54) (hk : Toks cs zs len) (hne : zs.getD i 0 ≠ k) :
    Calls Try.prog 38 #[.pointer (some ⟨P, 0, none⟩), .int .i64 k] w fun e w' => e = .returned (.bool false) ∧ w.grownBy w' (some P) ∧ Row w' P (PRow T len i) 57 := by
  have hfk := field_kind
  go_enter Try.func38, Try.ntmps38
  go_wp2_with fail
  refine (peek_any P T len i zs cs w hi hp ht hk).mono ?_
  rintro e w1 ⟨rfl, hg⟩
  have HG : Hid (w.grownBy w1 (some P)) := grown_weaken hg _
  have HR : Hid (Row w1 P (PRow T len i) 57) := hp.grown hg (by simp)
  clear hg hp ht hk
  generalize zs.getD i 0 = z at hne
  have hne' : (z != k) = true := by simpa using hne
  clear hne
  go_wp2
  go_ret
  exact ⟨rfl, HG.out, HR.out⟩

set_option maxHeartbeats 1000000 in
theorem accept_yes (P T len i : Nat) (k : Int) (zs : List Int) (cs : Array Value) (w : World) (hl : len ≤ 1048576) (hi : i < len) (hp : Row w P (PRow T len i) 57) (ht : Row w T cs 54) (hk : Toks cs zs len) (he : zs.getD i 0 = k) :
    Calls Try.prog 38 #[.pointer (some ⟨P, 0, none⟩), .int .i64 k] w fun e w' => e = .returned (.bool true) ∧ w.grownBy w' (some P) ∧ Row w' P (PRow T len (i + 1)) 57 := by
  subst he
  have hfk := field_kind
  go_enter Try.func38, Try.ntmps38
  go_wp2_with fail
  refine (peek_any P T len i zs cs w hi hp ht hk).mono ?_
  rintro e w1 ⟨rfl, hg⟩
  have HG : Hid (w.grownBy w1 (some P)) := grown_weaken hg _
  have hr : Row w1 P (PRow T len i) 57 := hp.grown hg (by simp)
  have HR : Hid (Row w1 P (PRow T len i) 57) := hr
  have p3 : w1.cell? ⟨P, 3, none⟩ = some (.int .i64 i) := by rw [hr.cell]; rfl
  have f3 := hr.free 3
  clear hg hp ht hk hr
  generalize zs.getD i 0 = z
  go_wp2
  go_ret
  refine ⟨rfl, grown_set HG.out (.inr rfl) _, ?_⟩
  rw [← PRow_next]
  exact HR.out.set 3 _

set_option maxHeartbeats 1000000 in
theorem zzAccept_no (P T len i : Nat) (k : Int) (zs : List Int) (cs : Array Value) (w : World) (hi : i < len) (hp : Row w P (PRow T len i) 57) (ht : Row w T cs 54) (hk : Toks cs zs len) (hne : zs.getD i 0 ≠ k) :
    Calls Try.prog 32 #[.pointer (some ⟨P, 0, none⟩), .int .i64 k] w fun e w' => e = .returned (.bool false) ∧ w.grownBy w' (some P) ∧ Row w' P (PRow T len i) 57 := by
  go_enter Try.func32, Try.ntmps32
  go_wp2_with fail
  refine (accept_no P T len i k zs cs w hi hp ht hk hne).mono ?_
  rintro e w1 ⟨rfl, hg, hr⟩
  have HG : Hid (w.grownBy w1 (some P)) := hg
  have HR : Hid (Row w1 P (PRow T len i) 57) := hr
  clear hg hr hp ht hk hne
  go_wp2
  go_ret
  exact ⟨rfl, HG.out, HR.out⟩

set_option maxHeartbeats 1000000 in
theorem zzAccept_yes (P T len i : Nat) (k : Int) (zs : List Int) (cs : Array Value) (w : World) (hl : len ≤ 1048576) (hi : i < len) (hp : Row w P (PRow T len i) 57) (ht : Row w T cs 54) (hk : Toks cs zs len) (he : zs.getD i 0 = k) :
    Calls Try.prog 32 #[.pointer (some ⟨P, 0, none⟩), .int .i64 k] w fun e w' => e = .returned (.bool true) ∧ w.grownBy w' (some P) ∧ Row w' P (PRow T len (i + 1)) 57 := by
  go_enter Try.func32, Try.ntmps32
  go_wp2_with fail
  refine (accept_yes P T len i k zs cs w hl hi hp ht hk he).mono ?_
  rintro e w1 ⟨rfl, hg, hr⟩
  have HG : Hid (w.grownBy w1 (some P)) := hg
  have HR : Hid (Row w1 P (PRow T len (i + 1)) 57) := hr
  clear hg hr hp ht hk he
  go_wp2
  go_ret
  exact ⟨rfl, HG.out, HR.out⟩
end Go.Proofs.Qxb6001720a
