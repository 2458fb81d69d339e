import Derived.Below
import Derived.OneCell
import Derived.Deep.OwnRows
namespace Go.Proofs.Qxb6603117a
open Go.RowKit

/-- block B of the world is a row of cells, none of them frozen -/
def Row (w : World) (B : Nat) (cs : Array Value) (t : TypeId) : Prop := w.heap[B]? = some (.cells cs t (0, 0))

theorem Row.cell {w : World} {B : Nat} {cs : Array Value} {t : TypeId} (h : Row w B cs t) (j : Nat) : w.cell? ⟨B, j, none⟩ = cs[j]? := by
  unfold Row at h; simp [World.cell?, h]
theorem Row.free {w : World} {B : Nat} {cs : Array Value} {t : TypeId} (h : Row w B cs t) (j : Nat) : w.frozen? ⟨B, j, none⟩ = false := by
  unfold Row at h; simp [World.frozen?, h]
theorem Row.lt {w : World} {B : Nat} {cs : Array Value} {t : TypeId} (h : Row w B cs t) : B < w.heap.size := lt_of_block h
theorem Row.set {w : World} {B : Nat} {cs : Array Value} {t : TypeId} (h : Row w B cs t) (j : Nat) (v : Value) : Row (w.setCell ⟨B, j, none⟩ v) B (cs.setIfInBounds j v) t := by
  have hlt := h.lt
  unfold Row at h ⊢
  have h' : w.heap[B] = .cells cs t (0, 0) := by simpa [Array.getElem?_eq_getElem hlt] using h
  show (w.heap.modify B _)[B]? = _
  rw [Array.getElem?_eq_getElem (by simpa using hlt), Array.getElem_modify_self, h']
  rfl
theorem Row.other {w : World} {B : Nat} {cs : Array Value} {t : TypeId} (h : Row w B cs t) {a : Addr} (ha : a.block ≠ B) (v : Value) : Row (w.setCell a v) B cs t := by
  unfold Row at h ⊢
  rw [Below.heap_setCell _ _ _ _ (fun e => ha e.symm)]; exact h
theorem Row.alloc {w : World} {B : Nat} {cs : Array Value} {t : TypeId} (h : Row w B cs t) (o : Obj) : Row (w.alloc o) B cs t := by
  have := h.lt
  unfold Row at h ⊢
  rw [Below.heap_alloc _ _ _ this]; exact h
theorem Row.drew {w : World} {B : Nat} {cs : Array Value} {t : TypeId} (h : Row w B cs t) : Row w.drew B cs t := h
theorem Row.new (w : World) (cs : Array Value) (t : TypeId) : Row (w.alloc (.cells cs t)) w.heap.size cs t := by
  show (w.heap.push _)[w.heap.size]? = _
  simp
theorem Row.below {w w' : World} {B N : Nat} {cs : Array Value} {t : TypeId} (h : Row w B cs t) (hb : Below N w w') (hB : B < N) : Row w' B cs t := by
  unfold Row at h ⊢
  rw [hb.block B hB]; exact h
theorem size_setCell (w : World) (a : Addr) (v : Value) : (w.setCell a v).heap.size = w.heap.size := by simp [World.setCell]
end Go.Proofs.Qxb6603117a
