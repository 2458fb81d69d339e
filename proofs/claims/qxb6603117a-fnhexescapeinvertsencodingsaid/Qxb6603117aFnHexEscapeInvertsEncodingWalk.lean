/-
  The walk of 'FnHexEscapeInvertsEncoding'.
-/
import Derived.Test.Qxb6603117aRows
import Derived.WalkKit
import Derived.ProofKit
import Derived.OpenShut
import Derived.ShutString
import Derived.ChangeOld
import Derived.Below
import Derived.Test.Qxb6603117aTail
namespace Go.Proofs.Qxb6603117a.fnHexEscapeInvertsEncoding
open Go.ChangeShapes Go.WideShapes Go.ChangeAt Go.RowKit
open Go.ChangeMaps (open_string shut_string)
set_option linter.unusedVariables false


/-- WHAT THE WALK IS TOLD OF A SLICE OF INTEGERS THAT CAME IN: it is nil; or it leads to a row of 'cap' cells, the numbers 'zs' (the first 'len' are its elements, the rest its spare room), each fitting its kind. -/
def IsRow (k : IntKind) (w : World) (a : Option Addr) (len cap : Nat) (zs : List Int) : Prop :=
  (a = none ∧ len = 0 ∧ cap = 0 ∧ zs = []) ∨
  ∃ x, a = some x ∧ len ≤ cap ∧ cap ≤ maxLen ∧ zs.length = cap ∧ (∀ i, i < zs.length → w.cell? (x.add i) = some (.int k (zs.getD i 0))) ∧ ∀ n ∈ zs, (Lit.int k n).wf = true

set_option maxHeartbeats 400000 in
theorem bytes6_any (r m : Int) (a : Option Addr) (len cap : Nat) (w0 : len ≤ maxLen) (w : World) :
    Calls Try.prog 6 #[.int .i32 r, .int .u8 m, .slice a len cap] w fun e w' => e = .returned (.bool (decide (len ≤ 1048576))) ∧ w' = w := by
  unfold maxLen at w0
  by_cases h : len ≤ 1048576
  · have hb : decide (len ≤ 1048576) = true := by simpa using h
    have HB : Hid (decide (len ≤ 1048576) = true) := hb
    clear hb
    go_enter Try.func6, Try.ntmps6
    go_wp2
    go_ret
    rw [HB.out]; exact ⟨rfl, rfl⟩
  · have hb : decide (len ≤ 1048576) = false := by simpa using h
    have HB : Hid (decide (len ≤ 1048576) = false) := hb
    clear hb
    go_enter Try.func6, Try.ntmps6
    go_wp2
    go_ret
    rw [HB.out]; exact ⟨rfl, rfl⟩

theorem walk_out (r m : Int) (a : Option Addr) (len cap : Nat) (w0 : len ≤ maxLen) (w : World) (hn : ¬ (len ≤ 65536 ∧ 0 ≤ r ∧ r ≤ 65535)) :
    Calls Try.prog 3 #[.int .i32 r, .int .u8 m, .slice a len cap] w fun e w' => e = .returned (.bool true) ∧ Below w.heap.size w w' := by
  have w0' := w0
  unfold maxLen at w0'
  go_enter Try.func3, Try.ntmps3
  go_wp2_with fail
  refine (bytes6_any _ _ _ _ _ w0 _).mono ?_
  rintro e w' ⟨rfl, rfl⟩
  go_wp2_with fail
  all_goals first | (exfalso; omega) | (go_ret; exact ⟨rfl, Below.refl _ _⟩)

/-- make([]byte, 6 + len) -/
theorem run_make_buf (C : Int) (c : Nat) (hC : C = c) (hc : c ≤ 2097152) (w : World) :
    (Instr.makeSlice 22 (.int .i64 C) (.int .i64 C)).run Try.prog w = .ok (.slice (some ⟨w.heap.size, 0, none⟩) c c) (w.alloc (.cells (madeCells #[.int .u8 0] c) 5)) := by
  subst hC
  exact run_make_row' (P := Try.prog) 22 5 (.int .u8 0) 1 Try.underlying22 Try.info5b rfl .i64 .i64 c (by omega) (by omega) w

/-- the i-th of the four digits of r -/
def dig (r : Int) : Nat → Int
  | 0 => r / 4096 % 16
  | 1 => r / 256 % 16
  | 2 => r / 16 % 16
  | _ => r % 16

theorem dig_all (r : Int) (h1 : 0 ≤ r) (h2 : r ≤ 65535) : hexVal (dig r) 4 = r := by
  simp [hexVal, dig]
  omega

/-- the escape as far as its first k digits: backslash and u, then digits of r -/
def Esc (cs : Array Value) (r : Int) (k : Nat) : Prop :=
  cs[0]? = some (.int .u8 92) ∧ cs[1]? = some (.int .u8 117) ∧ ∀ i, i < k → ∃ ch, cs[2 + i]? = some (.int .u8 ch) ∧ HexC ch (dig r i)

/-- a store into the new row: the tail stays -/
theorem tail_store {w : World} {ta : Option Addr} {len lcap : Nat} {tl : List UInt8} (h : TailOk w ta len lcap tl) {B : Nat} (hn : ∀ B', ta = some (⟨B', 0, none⟩ : Addr) → 0 < len → B' ≠ B) (j : Nat) (v : Value) :
    TailOk (w.setCell ⟨B, j, none⟩ v) ta len lcap tl :=
  h.kept (by rw [size_setCell]; exact Nat.le_refl _) (fun B' i _ e h0 => World.cell?_of_block (Below.heap_setCell _ _ _ _ (hn B' e h0)))

theorem esc_zero {w0 W : World} {B len lcap : Nat} {ta : Option Addr} {tl : List UInt8} {cs : Array Value} (r : Int) (hB : w0.heap.size ≤ B) (h1 : Below w0.heap.size w0 W) (h2 : TailOk W ta len lcap tl) (hn : ∀ B', ta = some (⟨B', 0, none⟩ : Addr) → 0 < len → B' ≠ B)
    (h3 : Row W B cs 5) (h4 : cs.size = 6 + len) :
    Below w0.heap.size w0 ((W.setCell ⟨B, 0, none⟩ (.int .u8 92)).setCell ⟨B, 1, none⟩ (.int .u8 117)) ∧ TailOk ((W.setCell ⟨B, 0, none⟩ (.int .u8 92)).setCell ⟨B, 1, none⟩ (.int .u8 117)) ta len lcap tl ∧
      ∃ cs', cs'.size = 6 + len ∧ Row ((W.setCell ⟨B, 0, none⟩ (.int .u8 92)).setCell ⟨B, 1, none⟩ (.int .u8 117)) B cs' 5 ∧ Esc cs' r 0 := by
  refine ⟨(h1.setCell hB _).setCell hB _, tail_store (tail_store h2 hn _ _) hn _ _, _, ?_, (h3.set _ _).set _ _, ?_, ?_, fun i hi => absurd hi (Nat.not_lt_zero _)⟩
  · simpa using h4
  · rw [Array.getElem?_setIfInBounds_ne (by omega), Array.getElem?_setIfInBounds_self_of_lt (by omega)]
  · rw [Array.getElem?_setIfInBounds_self_of_lt (by simp; omega)]

theorem esc_step {w0 wr : World} {B len lcap k : Nat} {ta : Option Addr} {tl : List UInt8} {cs : Array Value} {r ch : Int} (hB : w0.heap.size ≤ B) (h1 : Below w0.heap.size w0 wr) (h2 : TailOk wr ta len lcap tl) (hn : ∀ B', ta = some (⟨B', 0, none⟩ : Addr) → 0 < len → B' ≠ B)
    (h3 : Row wr B cs 5) (h4 : cs.size = 6 + len) (h5 : Esc cs r k) (hk : k < 4) (hx : HexC ch (dig r k)) {o : Nat} (ho : o = 2 + k) :
    Below w0.heap.size w0 (wr.setCell ⟨B, o, none⟩ (.int .u8 ch)) ∧ TailOk (wr.setCell ⟨B, o, none⟩ (.int .u8 ch)) ta len lcap tl ∧
      ∃ cs', cs'.size = 6 + len ∧ Row (wr.setCell ⟨B, o, none⟩ (.int .u8 ch)) B cs' 5 ∧ Esc cs' r (k + 1) := by
  subst ho
  obtain ⟨e0, e1, e2⟩ := h5
  refine ⟨h1.setCell hB _, tail_store h2 hn _ _, _, ?_, h3.set _ _, ?_, ?_, fun i hi => ?_⟩
  · simpa using h4
  · rw [Array.getElem?_setIfInBounds_ne (by omega)]; exact e0
  · rw [Array.getElem?_setIfInBounds_ne (by omega)]; exact e1
  · by_cases e : i = k
    · subst e
      exact ⟨ch, by rw [Array.getElem?_setIfInBounds_self_of_lt (by omega)], hx⟩
    · obtain ⟨c, hc, hcx⟩ := e2 i (by omega)
      exact ⟨c, by rw [Array.getElem?_setIfInBounds_ne (by omega)]; exact hc, hcx⟩

theorem esc_copy {w0 wr : World} {B len lcap k : Nat} {ta : Option Addr} {tl : List UInt8} {cs : Array Value} {r : Int} (v : Value) (hB : w0.heap.size ≤ B) (h1 : Below w0.heap.size w0 wr) (h2 : TailOk wr ta len lcap tl) (hn : ∀ B', ta = some (⟨B', 0, none⟩ : Addr) → 0 < len → B' ≠ B)
    (h3 : Row wr B cs 5) (h4 : cs.size = 6 + len) (h5 : Esc cs r 4) :
    Below w0.heap.size w0 (wr.setCell ⟨B, 6 + k, none⟩ v) ∧ TailOk (wr.setCell ⟨B, 6 + k, none⟩ v) ta len lcap tl ∧
      ∃ cs', cs'.size = 6 + len ∧ Row (wr.setCell ⟨B, 6 + k, none⟩ v) B cs' 5 ∧ Esc cs' r 4 := by
  obtain ⟨e0, e1, e2⟩ := h5
  refine ⟨h1.setCell hB _, tail_store h2 hn _ _, _, ?_, h3.set _ _, ?_, ?_, fun i hi => ?_⟩
  · simpa using h4
  · rw [Array.getElem?_setIfInBounds_ne (by omega)]; exact e0
  · rw [Array.getElem?_setIfInBounds_ne (by omega)]; exact e1
  · obtain ⟨c, hc, hcx⟩ := e2 i hi
    exact ⟨c, by rw [Array.getElem?_setIfInBounds_ne (by omega)]; exact hc, hcx⟩

theorem hexU (q : Nat) (h : q < 16) : HexC ((((⟨#[48, 49, 50, 51, 52, 53, 54, 55, 56, 57, 65, 66, 67, 68, 69, 70]⟩ : ByteArray)[q]'h).toNat : Nat) : Int) (q : Int) := by
  have : ∀ p : Fin 16, HexC ((((⟨#[48, 49, 50, 51, 52, 53, 54, 55, 56, 57, 65, 66, 67, 68, 69, 70]⟩ : ByteArray)[p.val]'p.isLt).toNat : Nat) : Int) (p.val : Int) := by unfold HexC; decide
  exact this ⟨q, h⟩
theorem hexL (q : Nat) (h : q < 16) : HexC ((((⟨#[48, 49, 50, 51, 52, 53, 54, 55, 56, 57, 97, 98, 99, 100, 101, 102]⟩ : ByteArray)[q]'h).toNat : Nat) : Int) (q : Int) := by
  have : ∀ p : Fin 16, HexC ((((⟨#[48, 49, 50, 51, 52, 53, 54, 55, 56, 57, 97, 98, 99, 100, 101, 102]⟩ : ByteArray)[p.val]'p.isLt).toNat : Nat) : Int) (p.val : Int) := by unfold HexC; decide
  exact this ⟨q, h⟩

/-- the byte at place 2 + i -/
def chAt (cs : Array Value) (i : Nat) : Int := match cs[2 + i]? with | some (.int _ z) => z | _ => 0

theorem Esc.chars {cs : Array Value} {r : Int} (h : Esc cs r 4) (i : Nat) (hi : i < 4) : cs[2 + i]? = some (.int .u8 (chAt cs i)) ∧ HexC (chAt cs i) (dig r i) := by
  obtain ⟨ch, hc, hx⟩ := h.2.2 i hi
  have e : chAt cs i = ch := by unfold chAt; rw [hc]
  rw [e]; exact ⟨hc, hx⟩

set_option maxHeartbeats 2000000 in
theorem walk_core (r m : Int) (a : Option Addr) (len cap : Nat) (tl : List UInt8) (w : World) (hlen : len ≤ 65536) (r1 : 0 ≤ r) (r2 : r ≤ 65535) (m1 : 0 ≤ m) (m2 : m ≤ 255)
    (hclone : Calls Try.prog 7 #[.slice a len cap] w fun e w' => ∃ ta lcap, e = .returned (.slice ta len lcap) ∧ Below w.heap.size w w' ∧ TailOk w' ta len lcap tl) :
    Calls Try.prog 3 #[.int .i32 r, .int .u8 m, .slice a len cap] w fun e w' => e = .returned (.bool true) ∧ Below w.heap.size w w' := by
  have t0 : decide (len ≤ 1048576) = true := by simp; omega
  have t1 : decide (65536 < (len : Int)) = false := by simp; omega
  have t2 : decide (r < 0) = false := by simp; omega
  have t3 : decide (65535 < r) = false := by simp; omega
  have HCL : Hid (Calls Try.prog 7 #[.slice a len cap] w fun e w' => ∃ ta lcap, e = .returned (.slice ta len lcap) ∧ Below w.heap.size w w' ∧ TailOk w' ta len lcap tl) := hclone
  clear hclone
  go_enter Try.func3, Try.ntmps3
  go_wp2_with fail
  refine (bytes6_any _ _ _ _ _ (by unfold maxLen; omega) _).mono ?_
  rintro e w0 ⟨rfl, rfl⟩
  go_wp2_with fail
  refine HCL.out.mono ?_
  rintro e w1 ⟨ta, lcap, rfl, hb1, ht1⟩
  have hmk := run_make_buf (6 + (len : Int)) (6 + len) (by omega) (by omega) w1
  obtain ⟨W, hW⟩ : ∃ W, W = w1.alloc (.cells (madeCells #[.int .u8 0] (6 + len)) 5) := ⟨_, rfl⟩
  have hrow : Row W w1.heap.size (madeCells #[.int .u8 0] (6 + len)) 5 := by rw [hW]; exact Row.new _ _ _
  have hsz0 : (madeCells #[.int .u8 0] (6 + len)).size = 6 + len := size_madeCells _ _
  generalize madeCells #[.int .u8 0] (6 + len) = cs0 at hrow hsz0
  have HBW : Hid (Below w0.heap.size w0 W) := by rw [hW]; exact hb1.alloc hb1.size _
  have HS0 : Hid (w0.heap.size ≤ w1.heap.size) := hb1.size
  have HTW : Hid (TailOk W ta len lcap tl) := ht1.kept (by rw [hW]; simp) (fun B j hB _ _ => by rw [hW]; exact World.cell?_alloc_past _ _ _ hB)
  have HNB : Hid (∀ B, ta = some (⟨B, 0, none⟩ : Addr) → 0 < len → B ≠ w1.heap.size) := by
    intro B hB h0 e
    obtain ⟨_, _, h | ⟨B', e', hlt, _⟩⟩ := ht1
    · omega
    · have hBB : B' = B := by
        rw [e'] at hB
        exact congrArg Addr.block (Option.some.inj hB)
      omega
  rw [← hW] at hmk
  clear hW hb1 ht1 HCL
  obtain ⟨o0, ho0⟩ : ∃ old, cs0[0]? = some old := ⟨cs0[0]'(by omega), by rw [Array.getElem?_eq_getElem]⟩
  obtain ⟨o1, ho1⟩ : ∃ old, cs0[1]? = some old := ⟨cs0[1]'(by omega), by rw [Array.getElem?_eq_getElem]⟩
  have c0 : W.cell? ⟨w1.heap.size, 0, none⟩ = some o0 := by rw [hrow.cell]; exact ho0
  have c1 : W.cell? ⟨w1.heap.size, 1, none⟩ = some o1 := by rw [hrow.cell]; exact ho1
  have f0 := hrow.free 0
  have f1 := hrow.free 1
  have HR : Hid (Row W w1.heap.size cs0 5) := hrow
  have HZ : Hid (cs0.size = 6 + len) := hsz0
  clear hrow hsz0 ho0 ho1
  go_wp2_with fail
  clear hmk c0 c1 f0 f1
  go_loopw [8] (fun t wr => ∃ k : Nat, k ≤ 4 ∧ t = .int .i64 k ∧ Below w0.heap.size w0 wr ∧ TailOk wr ta len lcap tl ∧ ∃ cs, cs.size = 6 + len ∧ Row wr w1.heap.size cs 5 ∧ Esc cs r k) (fun t _ => 4 - (intOf t).toNat)
  case atStart => exact ⟨0, by omega, rfl, esc_zero r HS0.out HBW.out HTW.out HNB.out HR.out HZ.out⟩
  case round =>
    obtain ⟨k, hk, rfl, hbw, htw, cs, hcs, hrw, hesc⟩ := hrel
    by_cases hlt : k < 4
    · obtain ⟨ok, hok⟩ : ∃ old, cs[2 + k]? = some old := ⟨cs[2 + k]'(by omega), by rw [Array.getElem?_eq_getElem]⟩
      have ck : wr.cell? ⟨w1.heap.size, 2 + k, none⟩ = some ok := by rw [hrw.cell]; exact hok
      have fk := hrw.free (2 + k)
      have HBR : Hid (Below w0.heap.size w0 wr) := hbw
      have HTR : Hid (TailOk wr ta len lcap tl) := htw
      have HRR : Hid (Row wr w1.heap.size cs 5) := hrw
      have HCS : Hid (cs.size = 6 + len) := hcs
      have HES : Hid (Esc cs r k) := hesc
      clear hbw htw hcs hrw hesc hok
      obtain rfl | rfl | rfl | rfl : k = 0 ∨ k = 1 ∨ k = 2 ∨ k = 3 := by omega
      · obtain ⟨q, hq⟩ : ∃ q : Nat, bits .and .i32 (r / 4096) 15 = (q : Int) := ⟨(dig r 0).toNat, by rw [and_15 _ (by omega) (by omega)]; simp [dig]; omega⟩
        have HQ : Hid (dig r 0 = (q : Int)) := by rw [← hq, and_15 _ (by omega) (by omega)]; rfl
        have hq16 : q < 16 := by
          have := HQ.out
          have e : dig r 0 = r / 4096 % 16 := rfl
          omega
        rw [show 2 + 0 = 2 from rfl] at ck fk
        go_wp2_with fail
        · go_roundw
          case rel => exact ⟨1, by omega, rfl, esc_step HS0.out HBR.out HTR.out HNB.out HRR.out HCS.out HES.out hlt (by rw [HQ.out]; exact hexU q hq16) rfl⟩
          case measure => simp [intOf]
        · go_roundw
          case rel => exact ⟨1, by omega, rfl, esc_step HS0.out HBR.out HTR.out HNB.out HRR.out HCS.out HES.out hlt (by rw [HQ.out]; exact hexL q hq16) rfl⟩
          case measure => simp [intOf]
      · obtain ⟨q, hq⟩ : ∃ q : Nat, bits .and .i32 (r / 256) 15 = (q : Int) := ⟨(dig r 1).toNat, by rw [and_15 _ (by omega) (by omega)]; simp [dig]; omega⟩
        have HQ : Hid (dig r 1 = (q : Int)) := by rw [← hq, and_15 _ (by omega) (by omega)]; rfl
        have hq16 : q < 16 := by
          have := HQ.out
          have e : dig r 1 = r / 256 % 16 := rfl
          omega
        rw [show 2 + 1 = 3 from rfl] at ck fk
        go_wp2_with fail
        · go_roundw
          case rel => exact ⟨2, by omega, rfl, esc_step HS0.out HBR.out HTR.out HNB.out HRR.out HCS.out HES.out hlt (by rw [HQ.out]; exact hexU q hq16) rfl⟩
          case measure => simp [intOf]
        · go_roundw
          case rel => exact ⟨2, by omega, rfl, esc_step HS0.out HBR.out HTR.out HNB.out HRR.out HCS.out HES.out hlt (by rw [HQ.out]; exact hexL q hq16) rfl⟩
          case measure => simp [intOf]
      · obtain ⟨q, hq⟩ : ∃ q : Nat, bits .and .i32 (r / 16) 15 = (q : Int) := ⟨(dig r 2).toNat, by rw [and_15 _ (by omega) (by omega)]; simp [dig]; omega⟩
        have HQ : Hid (dig r 2 = (q : Int)) := by rw [← hq, and_15 _ (by omega) (by omega)]; rfl
        have hq16 : q < 16 := by
          have := HQ.out
          have e : dig r 2 = r / 16 % 16 := rfl
          omega
        rw [show 2 + 2 = 4 from rfl] at ck fk
        go_wp2_with fail
        · go_roundw
          case rel => exact ⟨3, by omega, rfl, esc_step HS0.out HBR.out HTR.out HNB.out HRR.out HCS.out HES.out hlt (by rw [HQ.out]; exact hexU q hq16) rfl⟩
          case measure => simp [intOf]
        · go_roundw
          case rel => exact ⟨3, by omega, rfl, esc_step HS0.out HBR.out HTR.out HNB.out HRR.out HCS.out HES.out hlt (by rw [HQ.out]; exact hexL q hq16) rfl⟩
          case measure => simp [intOf]
      · obtain ⟨q, hq⟩ : ∃ q : Nat, bits .and .i32 (r) 15 = (q : Int) := ⟨(dig r 3).toNat, by rw [and_15 _ (by omega) (by omega)]; simp [dig]; omega⟩
        have HQ : Hid (dig r 3 = (q : Int)) := by rw [← hq, and_15 _ (by omega) (by omega)]; rfl
        have hq16 : q < 16 := by
          have := HQ.out
          have e : dig r 3 = r % 16 := rfl
          omega
        rw [show 2 + 3 = 5 from rfl] at ck fk
        go_wp2_with fail
        · go_roundw
          case rel => exact ⟨4, by omega, rfl, esc_step HS0.out HBR.out HTR.out HNB.out HRR.out HCS.out HES.out hlt (by rw [HQ.out]; exact hexU q hq16) rfl⟩
          case measure => simp [intOf]
        · go_roundw
          case rel => exact ⟨4, by omega, rfl, esc_step HS0.out HBR.out HTR.out HNB.out HRR.out HCS.out HES.out hlt (by rw [HQ.out]; exact hexL q hq16) rfl⟩
          case measure => simp [intOf]
    · obtain rfl : k = 4 := by omega
      have HB4 : Hid (Below w0.heap.size w0 wr) := hbw
      have HT4 : Hid (TailOk wr ta len lcap tl) := htw
      have HE4 : Hid (∃ cs, cs.size = 6 + len ∧ Row wr w1.heap.size cs 5 ∧ Esc cs r 4) := ⟨cs, hcs, hrw, hesc⟩
      clear hbw htw hcs hrw hesc
      go_wp2_with fail
      go_loopw [10] (fun t wr => ∃ k : Nat, k ≤ len ∧ t = .int .i64 k ∧ Below w0.heap.size w0 wr ∧ TailOk wr ta len lcap tl ∧ ∃ cs, cs.size = 6 + len ∧ Row wr w1.heap.size cs 5 ∧ Esc cs r 4) (fun t _ => len - (intOf t).toNat)
      case atStart => exact ⟨0, Nat.zero_le _, rfl, HB4.out, HT4.out, HE4.out⟩
      case round =>
        obtain ⟨k, hk', rfl, hbw, htw, cs, hcs, hrw, hesc⟩ := hrel
        have HB5 : Hid (Below w0.heap.size w0 wr) := hbw
        have HT5 : Hid (TailOk wr ta len lcap tl) := htw
        have HR5 : Hid (Row wr w1.heap.size cs 5) := hrw
        have HC5 : Hid (cs.size = 6 + len) := hcs
        have HE5 : Hid (Esc cs r 4) := hesc
        by_cases hkl : k < len
        · obtain ⟨htl, _, h | ⟨B', rfl, hBl, hBt⟩⟩ := htw
          · omega
          · have hsrc := hBt k (by omega)
            rw [Nat.zero_add] at hsrc
            generalize ((tl[k]'(by omega)).toNat : Int) = z at hsrc
            obtain ⟨ok, hok⟩ : ∃ old, cs[6 + k]? = some old := ⟨cs[6 + k]'(by omega), by rw [Array.getElem?_eq_getElem]⟩
            have ck : wr.cell? ⟨w1.heap.size, 6 + k, none⟩ = some ok := by rw [hrw.cell]; exact hok
            have fk := hrw.free (6 + k)
            clear hbw hcs hrw hesc hok hBt htl hBl
            go_wp2_with fail
            go_roundw
            case rel => exact ⟨k + 1, by omega, by go_num, esc_copy _ HS0.out HB5.out HT5.out HNB.out HR5.out HC5.out HE5.out⟩
            case measure => simp [intOf]; omega
        · obtain rfl : k = len := by omega
          have b0 : wr.cell? ⟨w1.heap.size, 0, none⟩ = some (.int .u8 92) := by rw [hrw.cell]; exact hesc.1
          have b1 : wr.cell? ⟨w1.heap.size, 1, none⟩ = some (.int .u8 117) := by rw [hrw.cell]; exact hesc.2.1
          have HHX := zzHexEscape_any w1.heap.size (6 + k) (6 + k) (chAt cs) (dig r) wr (by omega) (Nat.le_refl _) b0 b1 (fun i hi => by rw [hrw.cell]; exact (hesc.chars i hi).1) (fun i hi => (hesc.chars i hi).2)
          rw [dig_all r r1 r2] at HHX
          have HH : Hid (Calls Try.prog 8 #[.slice (some ⟨w1.heap.size, 0, none⟩) (6 + k) (6 + k)] wr fun e w' => e = .returned (.tuple #[.int .i32 r, .bool true]) ∧ w' = wr) := HHX
          clear HHX b0 b1 hbw htw hcs hrw hesc
          go_wp2_with fail
          refine HH.out.mono ?_
          rintro e w5 ⟨rfl, rfl⟩
          go_wp2
          go_ret
          exact ⟨rfl, HB5.out⟩

theorem walk (a0 : Int) (a1 : Int) (a2 : Option Addr) (len2 cap2 : Nat) (z2 : List Int) (w : World) (w0 : (Lit.int .i32 a0).wf = true) (w1 : (Lit.int .u8 a1).wf = true) (w2 : IsRow .u8 w a2 len2 cap2 z2) :
    Calls Try.prog 3 #[.int .i32 a0, .int .u8 a1, .slice a2 len2 cap2] w fun e w' => e = .returned (.bool true) ∧ Below w.heap.size w w' := by
  have hb1 := bounds_u8 w1
  rcases w2 with ⟨rfl, rfl, rfl, rfl⟩ | ⟨x, rfl, hlc, hcm, hz, hcell, hwf⟩
  · by_cases hin : (0 : Nat) ≤ 65536 ∧ 0 ≤ a0 ∧ a0 ≤ 65535
    · exact walk_core a0 a1 none 0 0 [] w hin.1 hin.2.1 hin.2.2 (by omega) (by omega) (clone_nil w)
    · exact walk_out _ _ _ _ _ (Nat.zero_le _) _ hin
  · by_cases hin : len2 ≤ 65536 ∧ 0 ≤ a0 ∧ a0 ≤ 65535
    · by_cases h0 : len2 = 0
      · subst h0
        exact walk_core a0 a1 (some x) 0 cap2 [] w hin.1 hin.2.1 hin.2.2 (by omega) (by omega) (clone_zero x cap2 w)
      · obtain ⟨b, off, rfl, hc⟩ := ints_at hcell (by omega)
        have hbd := range_u8 hwf
        refine walk_core a0 a1 (some ⟨b, off, none⟩) len2 cap2 ((z2.take len2).map fun n => UInt8.ofNat n.toNat) w hin.1 hin.2.1 hin.2.2 (by omega) (by omega)
          (clone_some b off len2 cap2 _ w (by omega) (by simp; omega) (World.block_lt_of_cell? _ _ (hc 0 (by omega))) ?_)
        intro j hj
        have hj2 : j < z2.length := by simp at hj; omega
        rw [hc j hj2]
        have hb := hbd j
        have e2 : z2[j]?.getD 0 = z2[j] := by rw [List.getElem?_eq_getElem hj2]; rfl
        have e : z2.getD j 0 = z2[j] := by rw [← e2, List.getD_eq_getElem?_getD]
        rw [e2] at hb
        rw [e]
        simp
        omega
    · exact walk_out _ _ _ _ _ (Nat.le_trans hlc hcm) _ hin

end Go.Proofs.Qxb6603117a.fnHexEscapeInvertsEncoding
