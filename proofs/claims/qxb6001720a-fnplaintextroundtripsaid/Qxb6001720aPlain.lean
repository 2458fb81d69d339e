import Derived.Deep.Upon
namespace Go.Proofs.Qxb6001720a
open Go.RowKit

/-- the plain text of 0.ds x 10^exp, ds not empty, without its sign -/
def plainBody (ds : List UInt8) (exp : Int) : List UInt8 :=
  if exp ≤ 0 then [48, 46] ++ (List.replicate (-exp).toNat 48 ++ ds)
  else if (ds.length : Int) ≤ exp then ds ++ List.replicate (exp - ds.length).toNat 48
  else ds.take exp.toNat ++ (46 :: ds.drop exp.toNat)

/-- what appendPlain appends -/
def plainTxt (neg : Bool) (ds : List UInt8) (exp : Int) : List UInt8 :=
  if ds = [] then [48] else (if neg then 45 :: plainBody ds exp else plainBody ds exp)

/-- bytes as cells -/
def cellsOf (l : List UInt8) : List Value := l.map fun b => Value.int .u8 b.toNat

theorem cellsOf_length (l : List UInt8) : (cellsOf l).length = l.length := by simp [cellsOf]
theorem cellsOf_append (a b : List UInt8) : cellsOf (a ++ b) = cellsOf a ++ cellsOf b := by simp [cellsOf]
theorem cellsOf_replicate (n : Nat) (c : UInt8) : cellsOf (List.replicate n c) = List.replicate n (.int .u8 c.toNat) := by simp [cellsOf]
theorem byteCells_cellsOf (s : ByteArray) : byteCells s = cellsOf s.data.toList := rfl

theorem plainBody_length_le (ds : List UInt8) (exp : Int) (h1 : -65536 ≤ exp) (h2 : exp ≤ 65536) : (plainBody ds exp).length ≤ ds.length + 65538 := by
  unfold plainBody
  split
  · simp; omega
  · split
    · simp; omega
    · simp; omega

theorem plainTxt_length_le (neg : Bool) (ds : List UInt8) (exp : Int) (h1 : -65536 ≤ exp) (h2 : exp ≤ 65536) : (plainTxt neg ds exp).length ≤ ds.length + 65539 := by
  have := plainBody_length_le ds exp h1 h2
  unfold plainTxt
  split
  · simp
  · split
    · simp; omega
    · omega

theorem Came.alloc {W : World} {size : Nat} {ao : Option Addr} {b off len cap : Nat} {olds : List Value} (h : Came W size ao b off len cap olds) (o : Obj) : Came (W.alloc o) size ao b off len cap olds := by
  refine ⟨h.le, h.addr, fun hc => ?_, h.oldsLen, fun j u hu => ?_, fun j hj => ?_⟩
  · have := h.lt hc
    simp; omega
  · have hw := h.olds j u hu
    have hb : b < W.heap.size := World.block_lt_of_cell? _ _ hw
    exact ((((Below.refl W.heap.size W).alloc (Nat.le_refl _) o).cell (p := ⟨b, off + j, none⟩) hb)).trans hw
  · obtain ⟨h1, h2⟩ := h.spare j hj
    have hcap : 0 < cap := by
      rcases Nat.eq_zero_or_pos cap with h0 | h0
      · subst h0; simp at hj
      · exact h0
    have hb : b < W.heap.size := h.lt hcap
    have hB := (Below.refl W.heap.size W).alloc (Nat.le_refl _) o
    exact ⟨by rw [hB.cell (p := ⟨b, _, none⟩) hb]; exact h1, by rw [hB.frozen (p := ⟨b, _, none⟩) hb]; exact h2⟩

theorem Upon.unalloc {W : World} {o : Obj} {e : TypeId} {size : Nat} {ao : Option Addr} {b off len cap : Nat} {olds : List Value} {w : World} {v : Value} {m : Nat} {ks : List Value} {r : Nat}
    (h : Upon (W.alloc o) e size ao b off len cap olds w v m ks r) : Upon W e size ao b off len cap olds w v m ks r := by
  have hB := (Below.refl W.heap.size W).alloc (Nat.le_refl _) o
  refine ⟨h.ksLen, h.rLe, h.rFit, World.keptBut_trans (World.keptBut_alloc _ _ _) h.kept, fun a ha => ?_, h.written, ?_⟩
  · rw [h.frozen a (by simp; omega)]
    exact hB.frozen ha
  · rcases h.val with ⟨h1, h2, h3⟩ | ⟨h1, g, c', h2, h3⟩
    · exact .inl ⟨h1, h2, h3⟩
    · exact .inr ⟨h1, g, c', h2, ⟨by have := h3.new; simp at this; omega, h3.le, h3.max, h3.holds, h3.there⟩⟩

/-- what is written in new memory alone: nothing old has turned -/
theorem kept_new {w w' : World} {may : MemPlace → Prop} (h : w.keptBut w' may) (hm : ∀ p, may p → w.heap.size ≤ p.block) : w.keptBut w' (fun _ => False) := by
  refine ⟨h.1, h.2.1, fun i hi => ?_⟩
  have hn : ∀ j, ¬ may (.cell i j) := fun j hj => by have := hm _ hj; simp [MemPlace.block] at this; omega
  have hn' : ¬ may (.map i) := fun hj => by have := hm _ hj; simp [MemPlace.block] at this; omega
  have h3 := h.2.2 i hi
  revert h3
  split
  · rintro ⟨a, b, c, d⟩
    exact ⟨a, b, c, fun j _ => d j (hn j)⟩
  · rintro (h | h)
    · exact absurd h hn'
    · exact .inr h
  · exact id

theorem kept_then {w W w' : World} {may : MemPlace → Prop} (h1 : w.keptBut W (fun _ => False)) (h2 : W.keptBut w' may) (hm : ∀ p, may p → w.heap.size ≤ p.block) : w.keptBut w' (fun _ => False) :=
  kept_new (World.keptBut_trans (World.keptBut_mono (fun _ f => f.elim) h1) h2) hm
end Go.Proofs.Qxb6001720a
