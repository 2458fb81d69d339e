import Derived.Test.Qxb6001720aRows
import Derived.WalkKit
import Derived.ProofKit
import Derived.WalkSpells
import Derived.WalkLawsBesides
import Derived.Laws.IdiomStrings
import Derived.Test.Qxb6001720aMem
import Derived.BigQuiet
import Derived.Deep.QuietTactic
namespace Go.Proofs.Qxb6001720a
open Go.ChangeShapes Go.WideShapes Go.ChangeAt Go.RowKit

/-- the bytes l lie in block g from offset o on -/
def Bs (w : World) (g o : Nat) (l : List UInt8) : Prop := ∀ j (hj : j < l.length), w.cell? ⟨g, o + j, none⟩ = some (.int .u8 (l[j].toNat : Int))

theorem Bs.take {w : World} {g o : Nat} {l : List UInt8} (h : Bs w g o l) (n : Nat) : Bs w g o (l.take n) := by
  intro j hj
  have hj' : j < l.length := by rw [List.length_take] at hj; omega
  rw [h j hj']; simp
theorem Bs.drop {w : World} {g o : Nat} {l : List UInt8} (h : Bs w g o l) (n : Nat) : Bs w g (o + n) (l.drop n) := by
  intro j hj
  have hj' : n + j < l.length := by rw [List.length_drop] at hj; omega
  rw [Nat.add_assoc, h (n + j) hj']; simp
theorem Bs.below {w w' : World} {g o N : Nat} {l : List UInt8} (h : Bs w g o l) (hb : Below N w w') (hg : g < N) : Bs w' g o l := by
  intro j hj
  rw [hb.cell (p := ⟨g, o + j, none⟩) hg]; exact h j hj
theorem Bs.conv {w : World} {g o : Nat} {l : List UInt8} (h : Bs w g o l) {n : Nat} (hn : l.length = n) (c : Nat) :
    (convert 22 9 (.slice (some ⟨g, o, none⟩) n c)).run Try.prog w = .ok (.string ⟨l.toArray⟩) w := by
  subst hn
  exact run_convert_bytes_back w 22 9 5 ⟨g, o, none⟩ c l Try.underlying22 Try.underlying5 Try.underlying9 (fun j hj => by rw [Addr.add_lit]; exact h j hj)

theorem equal_any (g1 o1 n1 c1 g2 o2 n2 c2 : Nat) (l1 l2 : List UInt8) (w : World) (h1 : Bs w g1 o1 l1) (e1 : l1.length = n1) (h2 : Bs w g2 o2 l2) (e2 : l2.length = n2) :
    Calls Try.prog 44 #[.slice (some ⟨g1, o1, none⟩) n1 c1, .slice (some ⟨g2, o2, none⟩) n2 c2] w fun e w' => e = .returned (.bool (l1 == l2)) ∧ w' = w := by
  have k1 := h1.conv e1 c1
  have k2 := h2.conv e2 c2
  clear h1 h2 e1 e2
  go_enter Try.func44, Try.ntmps44
  go_wp2
  go_ret
  exact ⟨rfl, rfl⟩

set_option maxHeartbeats 400000 in
theorem hasPrefix_any (g o n c g2 o2 m c2 : Nat) (l p : List UInt8) (w : World) (h1 : Bs w g o l) (e1 : l.length = n) (h2 : Bs w g2 o2 p) (e2 : p.length = m) (hm : m ≤ n) (hn : n ≤ c) :
    Calls Try.prog 42 #[.slice (some ⟨g, o, none⟩) n c, .slice (some ⟨g2, o2, none⟩) m c2] w fun e w' => e = .returned (.bool (l.take m == p)) ∧ w' = w := by
  have K1 : Hid (Bs w g o (l.take m)) := h1.take m
  have K2 : Hid (Bs w g2 o2 p) := h2
  have L1 : Hid ((l.take m).length = m) := by rw [List.length_take]; simp [Hid]; omega
  have L2 : Hid (p.length = m) := e2
  clear h1 h2 e1 e2
  go_enter Try.func42, Try.ntmps42
  go_wp2_with fail
  refine (equal_any g o m c g2 o2 m c2 (l.take m) p w K1.out L1.out K2.out L2.out).mono ?_
  rintro e w' ⟨rfl, rfl⟩
  generalize hr : (l.take m == p) = r
  have HR : Hid ((l.take m == p) = r) := hr
  clear hr
  go_wp2
  go_ret
  refine ⟨?_, rfl⟩
  rw [HR.out]; rfl

set_option maxHeartbeats 400000 in
theorem cutPrefix_no (g o n c g2 o2 m c2 : Nat) (l p : List UInt8) (w : World) (h1 : Bs w g o l) (e1 : l.length = n) (h2 : Bs w g2 o2 p) (e2 : p.length = m) (hm : m ≤ n) (hn : n ≤ c) (hp : (l.take m == p) = false) :
    Calls Try.prog 39 #[.slice (some ⟨g, o, none⟩) n c, .slice (some ⟨g2, o2, none⟩) m c2] w fun e w' => e = .returned (.tuple #[.slice (some ⟨g, o, none⟩) n c, .bool false]) ∧ w' = w := by
  have K1 : Hid (Bs w g o l) := h1
  have K2 : Hid (Bs w g2 o2 p) := h2
  have L1 : Hid (l.length = n) := e1
  have L2 : Hid (p.length = m) := e2
  have HP : Hid ((l.take m == p) = false) := hp
  clear h1 h2 e1 e2 hp
  go_enter Try.func39, Try.ntmps39
  go_wp2_with fail
  refine (hasPrefix_any g o n c g2 o2 m c2 l p w K1.out L1.out K2.out L2.out hm hn).mono ?_
  rintro e w' ⟨rfl, rfl⟩
  rw [HP.out]
  go_wp2
  go_ret2
  exact ⟨rfl, rfl⟩

set_option maxHeartbeats 400000 in
theorem cutPrefix_yes (g o n c g2 o2 m c2 : Nat) (l p : List UInt8) (w : World) (h1 : Bs w g o l) (e1 : l.length = n) (h2 : Bs w g2 o2 p) (e2 : p.length = m) (hm : m ≤ n) (hn : n ≤ c) (hp : (l.take m == p) = true) :
    Calls Try.prog 39 #[.slice (some ⟨g, o, none⟩) n c, .slice (some ⟨g2, o2, none⟩) m c2] w fun e w' => ∃ a, (m < c → a = (⟨g, o + m, none⟩ : Addr)) ∧ e = .returned (.tuple #[.slice (some a) (n - m) (c - m), .bool true]) ∧ w' = w := by
  have K1 : Hid (Bs w g o l) := h1
  have K2 : Hid (Bs w g2 o2 p) := h2
  have L1 : Hid (l.length = n) := e1
  have L2 : Hid (p.length = m) := e2
  have HP : Hid ((l.take m == p) = true) := hp
  clear h1 h2 e1 e2 hp
  by_cases hmc : m < c
  · go_enter Try.func39, Try.ntmps39
    go_wp2_with fail
    refine (hasPrefix_any g o n c g2 o2 m c2 l p w K1.out L1.out K2.out L2.out hm hn).mono ?_
    rintro e w' ⟨rfl, rfl⟩
    rw [HP.out]
    go_wp2
    go_ret2
    exact ⟨_, fun _ => rfl, rfl, rfl⟩
  · obtain rfl : m = c := by omega
    obtain rfl : n = m := by omega
    go_enter Try.func39, Try.ntmps39
    go_wp2_with fail
    refine (hasPrefix_any g o n n g2 o2 n c2 l p w K1.out L1.out K2.out L2.out hm hn).mono ?_
    rintro e w' ⟨rfl, rfl⟩
    rw [HP.out]
    go_wp2
    go_ret2
    rw [Nat.sub_self]
    exact ⟨⟨g, o, none⟩, fun h => absurd h (Nat.lt_irrefl _), rfl, rfl⟩

/-- []byte(s): a new row that holds the bytes of s -/
theorem conv_str (s : ByteArray) (w : World) : ∃ c w', (convert 9 22 (.string s)).run Try.prog w = .ok (.slice (some ⟨w.heap.size, 0, none⟩) s.size c) w' ∧ Below w.heap.size w w' ∧ w'.heap.size = w.heap.size + 1 ∧ Bs w' w.heap.size 0 s.data.toList := by
  have h := run_bytes_of_string (P := Try.prog) w 9 22 5 s Try.underlying9 Try.underlying22 Try.underlying5
  refine ⟨_, _, h, ((Below.refl _ _).drew).alloc (Nat.le_refl _) _, by simp, ?_⟩
  intro j hj
  have hl : s.data.toList.length = s.size := by rw [Array.length_toList]; rfl
  rw [Nat.zero_add]
  have e := World.cell?_alloc_mark w.drew (bytesRow s (grownCap w s.size 0 5)) 5 ((bytesRow s (grownCap w s.size 0 5)).size, (bytesRow s (grownCap w s.size 0 5)).size + 1) j
  have e2 : w.drew.heap.size = w.heap.size := rfl
  rw [e2] at e
  rw [e]
  unfold bytesRow
  rw [Array.getElem?_append_left (by simp at hj ⊢; omega)]
  simp at hj ⊢
  exact ⟨_, by rw [Array.getElem?_eq_getElem hj], rfl⟩
end Go.Proofs.Qxb6001720a
