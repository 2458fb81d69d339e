import Derived.Test.Qxb6001720aCut
namespace Go.Proofs.Qxb6001720a
open Go.ChangeShapes Go.WideShapes Go.ChangeAt Go.RowKit

def wTrue : List UInt8 := [116, 114, 117, 101]
def wFalse : List UInt8 := [102, 97, 108, 115, 101]

set_option maxHeartbeats 1000000 in
theorem boolAt_true (g o n c : Nat) (l : List UInt8) (w : World) (hg : g < w.heap.size) (h1 : Bs w g o l) (e1 : l.length = n) (hn : n ≤ c) (hc : c ≤ 9223372036854775807) (h4 : 4 ≤ n) (hp : l.take 4 = wTrue) :
    Calls Try.prog 33 #[.slice (some ⟨g, o, none⟩) n c] w fun e w' => ∃ a, (4 < c → a = (⟨g, o + 4, none⟩ : Addr)) ∧
      e = .returned (.tuple #[.slice (some ⟨g, o, none⟩) 4 c, .slice (some a) (n - 4) (c - 4), .bool true]) ∧ Below w.heap.size w w' := by
  obtain ⟨c2, w2, hrun, hbel, hsz, hbs⟩ := conv_str ⟨#[116, 114, 117, 101]⟩ (w.alloc (.cells #[.string ⟨#[116, 114, 117, 101]⟩, .string ⟨#[102, 97, 108, 115, 101]⟩] 9))
  have HB : Hid (Below w.heap.size w w2) := ((Below.refl _ _).alloc (Nat.le_refl _) _).trans (hbel.mono (by simp))
  have K1 : Hid (Bs w2 g o l) := h1.below HB.out hg
  have K2 : Hid (Bs w2 (w.heap.size + 1) 0 wTrue) := by simpa [Hid, wTrue] using hbs
  have L1 : Hid (l.length = n) := e1
  have HP : Hid ((l.take 4 == wTrue) = true) := by rw [hp]; simp [Hid]
  rw [show (⟨#[116, 114, 117, 101]⟩ : ByteArray).size = 4 from rfl] at hrun
  simp only [World.size_alloc] at hrun
  clear h1 e1 hp hbel hsz hbs
  go_enter Try.func33, Try.ntmps33
  go_wp2
  refine wp_loop_rounds 1 ?_
  rw [rounds_succ]
  go_wp2_with fail
  refine (cutPrefix_yes g o n c (w.heap.size + 1) 0 4 c2 l wTrue w2 K1.out L1.out K2.out rfl h4 hn HP.out).mono ?_
  rintro e w' ⟨a, ha, rfl, rfl⟩
  have HA : Hid (4 < c → a = (⟨g, o + 4, none⟩ : Addr)) := ha
  clear ha
  go_wp2
  go_ret3
  exact ⟨a, HA.out, rfl, HB.out⟩

set_option maxHeartbeats 1000000 in
theorem boolAt_false (g o n c : Nat) (l : List UInt8) (w : World) (hg : g < w.heap.size) (h1 : Bs w g o l) (e1 : l.length = n) (hn : n ≤ c) (hc : c ≤ 9223372036854775807) (h5 : 5 ≤ n) (hp : l.take 5 = wFalse) :
    Calls Try.prog 33 #[.slice (some ⟨g, o, none⟩) n c] w fun e w' => ∃ a, (5 < c → a = (⟨g, o + 5, none⟩ : Addr)) ∧
      e = .returned (.tuple #[.slice (some ⟨g, o, none⟩) 5 c, .slice (some a) (n - 5) (c - 5), .bool true]) ∧ Below w.heap.size w w' := by
  obtain ⟨c2, w2, hrun, hbel, hsz, hbs⟩ := conv_str ⟨#[116, 114, 117, 101]⟩ (w.alloc (.cells #[.string ⟨#[116, 114, 117, 101]⟩, .string ⟨#[102, 97, 108, 115, 101]⟩] 9))
  obtain ⟨c3, w3, hrun3, hbel3, hsz3, hbs3⟩ := conv_str ⟨#[102, 97, 108, 115, 101]⟩ w2
  have hB := (((Below.refl _ _).alloc (Nat.le_refl _) _).trans (hbel.mono (by simp)) : Below w.heap.size w w2)
  have HB : Hid (Below w.heap.size w w3) := hB.trans (hbel3.mono hB.size)
  have K1 : Hid (Bs w2 g o l) := h1.below hB hg
  have K3 : Hid (Bs w3 g o l) := h1.below HB.out hg
  have K2 : Hid (Bs w2 (w.heap.size + 1) 0 wTrue) := by simpa [Hid, wTrue] using hbs
  have K4 : Hid (Bs w3 w2.heap.size 0 wFalse) := by simpa [Hid, wFalse] using hbs3
  have L1 : Hid (l.length = n) := e1
  have HP5 : Hid ((l.take 5 == wFalse) = true) := by rw [hp]; simp [Hid]
  have HP4 : Hid ((l.take 4 == wTrue) = false) := by
    have e : l.take 4 = wFalse.take 4 := by rw [← hp, List.take_take]; rfl
    rw [e]; show _ = _; decide
  have hs1 : w2.cell? ⟨w.heap.size, 1, none⟩ = some (.string ⟨#[102, 97, 108, 115, 101]⟩) := by
    rw [hbel.cell (p := ⟨w.heap.size, 1, none⟩) (by simp)]; simp
  rw [show (⟨#[116, 114, 117, 101]⟩ : ByteArray).size = 4 from rfl] at hrun
  rw [show (⟨#[102, 97, 108, 115, 101]⟩ : ByteArray).size = 5 from rfl] at hrun3
  simp only [World.size_alloc] at hrun
  clear h1 e1 hp hbel hsz hbs hbel3 hsz3 hbs3 hB
  go_enter Try.func33, Try.ntmps33
  go_wp2
  refine wp_loop_rounds 2 ?_
  rw [rounds_succ]
  go_wp2_with fail
  refine (cutPrefix_no g o n c (w.heap.size + 1) 0 4 c2 l wTrue w2 K1.out L1.out K2.out rfl (by omega) hn HP4.out).mono ?_
  rintro e w' ⟨rfl, rfl⟩
  go_wp2_with fail
  rw [rounds_succ]
  go_wp2_with fail
  refine (cutPrefix_yes g o n c w'.heap.size 0 5 c3 l wFalse w3 K3.out L1.out K4.out rfl h5 hn HP5.out).mono ?_
  rintro e w4 ⟨a, ha, rfl, rfl⟩
  have HA : Hid (5 < c → a = (⟨g, o + 5, none⟩ : Addr)) := ha
  clear ha hrun hrun3 hs1
  go_wp2
  go_ret3
  exact ⟨a, HA.out, rfl, HB.out⟩

/-- the word of a bool, m bytes -/
def wordOf (b : Bool) : List UInt8 := if b then wTrue else wFalse

theorem boolAt_any (b : Bool) (m g o n c : Nat) (l : List UInt8) (w : World) (hm : (wordOf b).length = m) (hg : g < w.heap.size) (h1 : Bs w g o l) (e1 : l.length = n) (hn : n ≤ c) (hc : c ≤ 9223372036854775807) (h5 : m ≤ n) (hp : l.take m = wordOf b) :
    Calls Try.prog 33 #[.slice (some ⟨g, o, none⟩) n c] w fun e w' => ∃ a, (m < c → a = (⟨g, o + m, none⟩ : Addr)) ∧
      e = .returned (.tuple #[.slice (some ⟨g, o, none⟩) m c, .slice (some a) (n - m) (c - m), .bool true]) ∧ Below w.heap.size w w' := by
  cases b
  · obtain rfl : 5 = m := hm
    exact boolAt_false g o n c l w hg h1 e1 hn hc h5 hp
  · obtain rfl : 4 = m := hm
    exact boolAt_true g o n c l w hg h1 e1 hn hc h5 hp

theorem zzBoolAt_any (b : Bool) (m g o n c : Nat) (l : List UInt8) (w : World) (hm : (wordOf b).length = m) (hg : g < w.heap.size) (h1 : Bs w g o l) (e1 : l.length = n) (hn : n ≤ c) (hc : c ≤ 9223372036854775807) (h5 : m ≤ n) (hp : l.take m = wordOf b) :
    Calls Try.prog 13 #[.slice (some ⟨g, o, none⟩) n c] w fun e w' => ∃ a, (m < c → a = (⟨g, o + m, none⟩ : Addr)) ∧
      e = .returned (.tuple #[.slice (some ⟨g, o, none⟩) m c, .slice (some a) (n - m) (c - m), .bool true]) ∧ Below w.heap.size w w' := by
  go_enter Try.func13, Try.ntmps13
  go_wp2_with fail
  refine (boolAt_any b m g o n c l w hm hg h1 e1 hn hc h5 hp).mono ?_
  rintro e w' ⟨a, ha, rfl, hb⟩
  have HA : Hid (m < c → a = (⟨g, o + m, none⟩ : Addr)) := ha
  have HB : Hid (Below w.heap.size w w') := hb
  clear ha hb h1 e1 hm hp
  go_wp2
  go_ret3
  exact ⟨a, HA.out, rfl, HB.out⟩

set_option maxHeartbeats 400000 in
theorem zzHasPrefix_any (g o n c : Nat) (s : ByteArray) (w : World) (h1 : Bs w g o s.data.toList) (hn : s.size ≤ n) (hs : s.size ≤ 1048576) :
    Calls Try.prog 34 #[.slice (some ⟨g, o, none⟩) n c, .string s] w fun e w' => e = .returned (.bool true) ∧ ∃ q, w' = w.drewN q := by
  have hl : s.data.toList.length = s.size := by rw [Array.length_toList]; rfl
  have K1 : Hid (∀ j (hj : j < s.size), w.cell? ⟨g, o + j, none⟩ = some (.int .u8 (s[j].toNat : Int))) := fun j hj => h1 j (by omega)
  clear h1 hl
  go_enter Try.func34, Try.ntmps34
  go_wp2
  go_loopw [5] (fun t wr => ∃ k q : Nat, k ≤ s.size ∧ t = .int .i64 k ∧ wr = w.drewN q) (fun t _ => s.size - (intOf t).toNat)
  case atStart => exact ⟨0, 0, Nat.zero_le _, rfl, rfl⟩
  case round =>
    obtain ⟨k, q, hk, rfl, rfl⟩ := hrel
    by_cases hlt : k < s.size
    · have hck := K1.out k hlt
      have hlt' : (k : Int) < (s.size : Int) := by omega
      have hkn : (k : Int) < (n : Int) := by omega
      have h0k : (0 : Int) ≤ (k : Int) := by omega
      go_wp2_with fail
      go_quiet (fail)
      go_wp2
      go_roundw
      case rel => exact ⟨k + 1, _, by omega, by go_num, rfl⟩
      case measure => simp [intOf]; omega
    · obtain rfl : k = s.size := by omega
      go_wp2
      go_ret
      exact ⟨rfl, q, rfl⟩

theorem zzSameText_any (g o c : Nat) (s : ByteArray) (w : World) (h1 : Bs w g o s.data.toList) (hs : s.size ≤ 1048576) :
    Calls Try.prog 14 #[.slice (some ⟨g, o, none⟩) s.size c, .string s] w fun e w' => e = .returned (.bool true) ∧ ∃ q, w' = w.drewN q := by
  have K1 : Hid (Bs w g o s.data.toList) := h1
  clear h1
  go_enter Try.func14, Try.ntmps14
  go_wp2_with fail
  refine (zzHasPrefix_any g o s.size c s w K1.out (Nat.le_refl _) hs).mono ?_
  rintro e w' ⟨rfl, q, rfl⟩
  go_wp2
  go_ret
  exact ⟨rfl, q, rfl⟩

theorem zzSameBytes_none (a1 a2 : Option Addr) (c1 c2 : Nat) (w : World) :
    Calls Try.prog 15 #[.slice a1 0 c1, .slice a2 0 c2] w fun e w' => e = .returned (.bool true) ∧ ∃ q, w' = w.drewN q := by
  go_enter Try.func15, Try.ntmps15
  go_wp2
  refine wp_loop_rounds 1 ?_
  rw [rounds_succ]
  go_wp2
  go_ret
  exact ⟨rfl, 0, rfl⟩

set_option maxHeartbeats 400000 in
theorem zzSameBytes_some (g1 o1 c1 g2 o2 c2 n : Nat) (l : List UInt8) (w : World) (h1 : Bs w g1 o1 l) (h2 : Bs w g2 o2 l) (hl : l.length = n) (hs : n ≤ 1048576) :
    Calls Try.prog 15 #[.slice (some ⟨g1, o1, none⟩) n c1, .slice (some ⟨g2, o2, none⟩) n c2] w fun e w' => e = .returned (.bool true) ∧ ∃ q, w' = w.drewN q := by
  subst hl
  have K1 : Hid (Bs w g1 o1 l) := h1
  have K2 : Hid (Bs w g2 o2 l) := h2
  clear h1 h2
  go_enter Try.func15, Try.ntmps15
  go_wp2
  go_loopw [5] (fun t wr => ∃ k q : Nat, k ≤ l.length ∧ t = .int .i64 k ∧ wr = w.drewN q) (fun t _ => l.length - (intOf t).toNat)
  case atStart => exact ⟨0, 0, Nat.zero_le _, rfl, rfl⟩
  case round =>
    obtain ⟨k, q, hk, rfl, rfl⟩ := hrel
    by_cases hlt : k < l.length
    · have hc1 := K1.out k hlt
      have hc2 := K2.out k hlt
      generalize (l[k].toNat : Int) = z at hc1 hc2
      have hlt' : (k : Int) < (l.length : Int) := by omega
      have h0k : (0 : Int) ≤ (k : Int) := by omega
      go_wp2_with fail
      go_quiet (fail)
      go_wp2
      go_roundw
      case rel => exact ⟨k + 1, _, by omega, by go_num, rfl⟩
      case measure => simp [intOf]; omega
    · obtain rfl : k = l.length := by omega
      go_wp2
      go_ret
      exact ⟨rfl, q, rfl⟩
end Go.Proofs.Qxb6001720a
