import Derived.Test.Qxb6603117aRows
import Derived.WalkKit
import Derived.ProofKit
import Derived.WalkSpells
import Derived.WalkLawsBesides
import Derived.Laws.DeepBits32
import Derived.Test.Qxb6603117aMem
namespace Go.Proofs.Qxb6603117a
open Go.ChangeShapes Go.WideShapes Go.ChangeAt Go.RowKit

/-- the byte c is a hexadecimal digit of value d -/
def HexC (c d : Int) : Prop := (48 ≤ c ∧ c ≤ 57 ∧ d = c - 48) ∨ (97 ≤ c ∧ c ≤ 102 ∧ d = c - 87) ∨ (65 ≤ c ∧ c ≤ 70 ∧ d = c - 55)

/-- the value of the first k digits -/
def hexVal (d : Nat → Int) : Nat → Int
  | 0 => 0
  | k + 1 => hexVal d k * 16 + d k

theorem HexC.bd {c d : Int} (h : HexC c d) : 0 ≤ d ∧ d ≤ 15 := by unfold HexC at h; omega

theorem hexVal_bd (d : Nat → Int) (h : ∀ i, i < 4 → 0 ≤ d i ∧ d i ≤ 15) : ∀ k, k ≤ 3 → 0 ≤ hexVal d k ∧ hexVal d k ≤ 4095 := by
  have h0 := h 0 (by omega)
  have h1 := h 1 (by omega)
  have h2 := h 2 (by omega)
  intro k hk
  match k, hk with
  | 0, _ => simp [hexVal]
  | 1, _ => simp [hexVal]; omega
  | 2, _ => simp [hexVal]; omega
  | 3, _ => simp [hexVal]; omega

theorem or_join (R d : Int) (h1 : 0 ≤ R) (h2 : R ≤ 4095) (h3 : 0 ≤ d) (h4 : d ≤ 15) : bits .or .i32 (R * 16) d = R * 16 + d := by
  obtain ⟨A, rfl⟩ := Int.eq_ofNat_of_zero_le h1
  obtain ⟨b, rfl⟩ := Int.eq_ofNat_of_zero_le h3
  show IntKind.i32.wrap ((BitVec.ofInt 32 (((A * 16 : Nat)) : Int) ||| BitVec.ofInt 32 (b : Int)).toNat : Int) = _
  rw [BitVec.toNat_or, ofInt_u32 (A * 16) (by omega), ofInt_u32 b (by omega), nat_join 4 (A * 16) b (by omega) (by omega)]
  rw [wrap_i32_small _ (by omega) (by omega)]
  omega

theorem and_15 (x : Int) (h1 : 0 ≤ x) (h2 : x ≤ 65535) : bits .and .i32 x 15 = x % 16 := by
  obtain ⟨A, rfl⟩ := Int.eq_ofNat_of_zero_le h1
  show IntKind.i32.wrap ((BitVec.ofInt 32 (A : Int) &&& BitVec.ofInt 32 ((15 : Nat) : Int)).toNat : Int) = _
  rw [BitVec.toNat_and, ofInt_u32 A (by omega), ofInt_u32 15 (by omega), nat_mask4]
  rw [wrap_i32_small _ (by omega) (by omega)]
  omega

set_option maxHeartbeats 1000000 in
theorem hexEscape_any (B n cap : Nat) (c d : Nat → Int) (w : World) (hn : 6 ≤ n) (hcap : n ≤ cap)
    (b0 : w.cell? ⟨B, 0, none⟩ = some (.int .u8 92)) (b1 : w.cell? ⟨B, 1, none⟩ = some (.int .u8 117))
    (bc : ∀ i, i < 4 → w.cell? ⟨B, 2 + i, none⟩ = some (.int .u8 (c i))) (hx : ∀ i, i < 4 → HexC (c i) (d i)) :
    Calls Try.prog 17 #[.slice (some ⟨B, 0, none⟩) n cap] w fun e w' => e = .returned (.tuple #[.int .i32 (hexVal d 4), .bool true]) ∧ w' = w := by
  have HB : Hid (∀ i, i < 4 → w.cell? ⟨B, 2 + i, none⟩ = some (.int .u8 (c i))) := bc
  have HX : Hid (∀ i, i < 4 → HexC (c i) (d i)) := hx
  clear bc hx
  have t1 : decide ((n : Int) < 6) = false := by simp; omega
  have t2 : (0 : Int) < (n : Int) := by omega
  have t3 : (1 : Int) < (n : Int) := by omega
  go_enter Try.func17, Try.ntmps17
  go_wp2
  go_loop [4, 25] (fun tr ti => ∃ k : Nat, k ≤ 4 ∧ ti = .int .i64 k ∧ tr = .int .i32 (hexVal d k)) (fun _ ti => 4 - (intOf ti).toNat)
  case atStart => exact ⟨0, by omega, rfl, rfl⟩
  case round =>
    obtain ⟨k, hk, rfl, rfl⟩ := hrel
    by_cases hlt : k < 4
    · have hbc := HB.out k hlt
      obtain ⟨v1, v2⟩ := hexVal_bd d (fun i hi => (HX.out i hi).bd) k (by omega)
      have HV : Hid (hexVal d (k + 1) = hexVal d k * 16 + d k) := rfl
      rcases HX.out k hlt with ⟨x1, x2, x3⟩ | ⟨x1, x2, x3⟩ | ⟨x1, x2, x3⟩
      · have HD : Hid (d k = c k - 48) := x3
        clear x3
        generalize c k = ck at *
        generalize hexVal d k = R at *
        go_wp2
        go_round
        case rel => exact ⟨k + 1, by omega, by go_num, by rw [HV.out, HD.out, or_join R (ck - 48) v1 v2 (by omega) (by omega)]⟩
        case measure => simp [intOf]; omega
      · have HD : Hid (d k = c k - 87) := x3
        clear x3
        generalize c k = ck at *
        generalize hexVal d k = R at *
        go_wp2
        go_round
        case rel => exact ⟨k + 1, by omega, by go_num, by rw [HV.out, HD.out, or_join R (ck - 87) v1 v2 (by omega) (by omega)]⟩
        case measure => simp [intOf]; omega
      · have HD : Hid (d k = c k - 55) := x3
        clear x3
        generalize c k = ck at *
        generalize hexVal d k = R at *
        go_wp2
        go_round
        case rel => exact ⟨k + 1, by omega, by go_num, by rw [HV.out, HD.out, or_join R (ck - 55) v1 v2 (by omega) (by omega)]⟩
        case measure => simp [intOf]; omega
    · obtain rfl : k = 4 := by omega
      go_wp2
      go_ret2
      exact ⟨rfl, rfl⟩
end Go.Proofs.Qxb6603117a
